import PyProof.Rows.All
import PyProof.CompMap
import PyProof.EqAt
import PyProof.NeKinds
import PyProof.FitsBits
import PyProof.LetGo
import PyProof.Rows.SeqIn
import PyProof.Rows.SeqSlice
import PyProof.Rows.SeqItemCall
import KE.KNestM
import KE.KRevIter
import KE.KRevSl
import KE.KSuperObj
import Wide.FinOn
import OpenK.AllK
import Wide.All
import Lean
import PySem.Challenge.RW_we0018_01
set_option Elab.async false
set_option maxRecDepth 100000
set_option maxHeartbeats 8000000
open PySem PySem.W PySem.W.X PyProof.Rows PySem.Spec PySem.Calls
noncomputable section
namespace Mine
open_top hd for PySem.Challenge.rw_we0018_01
end Mine

namespace Mine
abbrev PP : Program := PySem.Challenge.pw_we0018_01
noncomputable abbrev KK (w : World) : Frag := hd.heap_39 w.params
abbrev aGI : Addr := 77
abbrev aD2N : Addr := 28
abbrev aI2D : Addr := 42
abbrev cI2D : Addr := 41
abbrev tI2D : Addr := 37
abbrev aD2I : Addr := 49
abbrev cD2I : Addr := 48
abbrev tD2I : Addr := 44
abbrev aDMP : Addr := 56
abbrev aIDM : Addr := 63
abbrev aI2A : Addr := 70
abbrev aLEX : Addr := 115
abbrev aINIT : Addr := 91
abbrev aRC : Addr := 98
abbrev aGT : Addr := 105
abbrev aLL : Addr := 126
abbrev cLL : Addr := 125
abbrev tLL : Addr := 121
abbrev aLR : Addr := 131
abbrev aLS : Addr := 138
abbrev tabs : List Addr := [37, 44, 121]
abbrev pI2D : Int := 35
abbrev pD2I : Int := 50
abbrev pLL : Int := 151
end Mine

namespace Mine

structure Gd (w : World) (mg mb : Str → Option Value) (g0 : Heap) : Prop where
  X : (KK w).In g0
  g : g0.Ns mainGlobals mg
  b : g0.Ns builtinsNs mb
  bi : ∀ x : Str, x ≠ "__name__" → mb x = bootBuiltins x
  nl : g0.NoLimit
  ba : ∀ P ∈ tabs, g0.BuiltinsAt mg P
  h1 : CodeHd g0 cI2D tI2D
  h2 : CodeHd g0 cD2I tD2I
  h3 : CodeHd g0 cLL tLL
  lt : ∀ t ∈ tabs, t < g0.objs.size
  tb : ∀ P ∈ tabs, g0.get? P = some (tabObj #[])

def NC (o : Obj) : Prop := ∀ (vs : Array Value) (q : Str) (t : Tok), o.data = .fields vs → vs[1]? = some (.str q t) → q = ""

def TI (h : Heap) (P : Addr) (ln : Int) (q : Str) : Prop :=
  ∃ ps, h.get? P = some (tabObj ps) ∧ (ps = #[] ∨ ∃ c : Addr, ps = #[.int ln 0, .int 4 0, .ref c] ∧ h.CodeRec (.ref c) q)

abbrev qI2D : Str := "_int2digits.<locals>.inner"
abbrev qD2I : Str := "_digits2int.<locals>.inner"
abbrev qLL : Str := "_law_lexer.<locals>._law_next"

structure OK (g0 h : Heap) : Prop where
  sz : g0.objs.size ≤ h.objs.size
  kp : ∀ b o, g0.get? b = some o → b ∉ tabs → h.get? b = some o
  lt : ∀ t ∈ tabs, t < g0.objs.size
  t1 : TI h tI2D pI2D qI2D
  t2 : TI h tD2I pD2I qD2I
  t3 : TI h tLL pLL qLL

structure Kp (T : List Addr) (h h' : Heap) : Prop where
  sz : h.objs.size ≤ h'.objs.size
  kp : ∀ b o, h.get? b = some o → b ∉ tabs → b ∉ T → h'.get? b = some o

theorem Kp.refl {T : List Addr} {h : Heap} : Kp T h h := ⟨Nat.le_refl _, fun _ _ e _ _ => e⟩
theorem Kp.trans {T : List Addr} {a b c : Heap} (x : Kp T a b) (y : Kp T b c) : Kp T a c := ⟨Nat.le_trans x.sz y.sz, fun d o e h1 h2 => y.kp d o (x.kp d o e h1 h2) h1 h2⟩
theorem Kp.weak {T T' : List Addr} {a b : Heap} (x : Kp T a b) (hT : ∀ t ∈ T, t ∈ T') : Kp T' a b := ⟨x.sz, fun d o e h1 h2 => x.kp d o e h1 fun q => h2 (hT _ q)⟩

theorem CodeRec.ne {h : Heap} {c : Addr} {q : Str} (hq : q ≠ "") (C : h.CodeRec (.ref c) q) {a : Addr} {o : Obj} (e : h.get? a = some o) (n : NC o) : c ≠ a := by
  obtain ⟨c', o', vs, t, e1, e2, e3, e4⟩ := C
  cases e1
  rintro rfl
  rw [e] at e2
  cases e2
  exact hq (n vs q t e3 e4)

theorem TI.keeps {h h' : Heap} {P : Addr} {ln : Int} {q : Str} (t : TI h P ln q) (hP : ∀ o, h.get? P = some o → h'.get? P = some o)
    (hc : ∀ (c : Addr) o, h.CodeRec (.ref c) q → h.get? c = some o → h'.get? c = some o) : TI h' P ln q := by
  obtain ⟨ps, e, r⟩ := t
  refine ⟨ps, hP _ e, r.imp id fun ⟨c, e1, e2⟩ => ⟨c, e1, ?_⟩⟩
  obtain ⟨c', o', vs, tt, f1, f2, f3, f4⟩ := e2
  cases f1
  exact ⟨c, o', vs, tt, rfl, hc c o' ⟨c, o', vs, tt, rfl, f2, f3, f4⟩ f2, f3, f4⟩

theorem OK.step {g0 h h' : Heap} (k : OK g0 h) {a : Addr} (ha : g0.objs.size ≤ a) (hn : ∀ o, h.get? a = some o → NC o) (sz : h.objs.size ≤ h'.objs.size)
    (kp : ∀ b o, b ≠ a → h.get? b = some o → h'.get? b = some o) : OK g0 h' := by
  have ht : ∀ t ∈ tabs, t ≠ a := fun t q => Nat.ne_of_lt (Nat.lt_of_lt_of_le (k.lt t q) ha)
  have hc : ∀ (q : Str), q ≠ "" → ∀ (c : Addr) o, h.CodeRec (.ref c) q → h.get? c = some o → h'.get? c = some o := fun q hq c o C e =>
    kp c o (fun z => by subst z; exact CodeRec.ne hq C e (hn _ e) rfl) e
  refine ⟨Nat.le_trans k.sz sz, fun b o e q => kp b o (Nat.ne_of_lt (Nat.lt_of_lt_of_le (Heap.lt_size e) ha)) (k.kp b o e q), k.lt, ?_, ?_, ?_⟩
  · exact k.t1.keeps (fun o e => kp _ _ (ht _ (by decide)) e) (hc _ (by decide))
  · exact k.t2.keeps (fun o e => kp _ _ (ht _ (by decide)) e) (hc _ (by decide))
  · exact k.t3.keeps (fun o e => kp _ _ (ht _ (by decide)) e) (hc _ (by decide))
theorem OK.ext {g0 h h' : Heap} (k : OK g0 h) (sz : h.objs.size ≤ h'.objs.size) (kp : ∀ b o, h.get? b = some o → h'.get? b = some o) : OK g0 h' := by
  refine ⟨Nat.le_trans k.sz sz, fun b o e q => kp b o (k.kp b o e q), k.lt, ?_, ?_, ?_⟩
  · exact k.t1.keeps (fun o e => kp _ _ e) (fun c o _ e => kp _ _ e)
  · exact k.t2.keeps (fun o e => kp _ _ e) (fun c o _ e => kp _ _ e)
  · exact k.t3.keeps (fun o e => kp _ _ e) (fun c o _ e => kp _ _ e)

structure FS (g0 g : Heap) (T : List Addr) (L : Addr) (h : Heap) (m : Str → Option Value) (nw : List (Addr × Obj)) : Prop where
  ok : OK g0 h
  kp : Kp T g h
  g0g : g0.objs.size ≤ g.objs.size
  ns : h.Ns L m
  le : g.objs.size ≤ L
  nws : ∀ p ∈ nw, h.get? p.1 = some p.2
  lo : ∀ p ∈ nw, g.objs.size ≤ p.1 ∨ (p.1 ∈ T ∧ g0.objs.size ≤ p.1)
  nd : (nw.map (·.1)).Nodup
  nL : ∀ p ∈ nw, @Ne Nat p.1 L

theorem ns_lt {h : Heap} {L : Addr} {m : Str → Option Value} (n : h.Ns L m) : L < h.objs.size := by
  obtain ⟨o, _, _, e, _⟩ := n
  exact Heap.lt_size e
theorem ns_nc {h : Heap} {L : Addr} {m : Str → Option Value} (n : h.Ns L m) : ∀ o, h.get? L = some o → NC o := by
  obtain ⟨o, es, ep, e, d, _⟩ := n
  intro o' e'
  rw [e] at e'
  cases e'
  intro vs q t hd
  rw [d] at hd
  cases hd
theorem ns_same {h h' : Heap} {a L : Addr} {m : Str → Option Value} (n : h.Ns L m) (hne : L ≠ a) (s : Heap.SameBut a h h') : h'.Ns L m := by
  obtain ⟨o, es, ep, e, r⟩ := n
  exact ⟨o, es, ep, (s.2 L hne).trans e, r⟩

section
variable {g0 g : Heap} {T : List Addr} {L : Addr} {h h' : Heap} {m m' : Str → Option Value} {nw : List (Addr × Obj)}
theorem same_sz {a : Addr} (s : Heap.SameBut a h h') : h.objs.size ≤ h'.objs.size := Nat.le_of_eq s.1.symm
theorem FS.lo0 (F : FS g0 g T L h m nw) {p : Addr × Obj} (hp : p ∈ nw) : g0.objs.size ≤ p.1 := (F.lo p hp).elim (Nat.le_trans F.g0g) (·.2)
theorem FS.kpT (F : FS g0 g T L h m nw) {a : Addr} (ha : g.objs.size ≤ a ∨ a ∈ T) (sz : h.objs.size ≤ h'.objs.size) (k : ∀ b o, b ≠ a → h.get? b = some o → h'.get? b = some o) : Kp T g h' :=
  ⟨Nat.le_trans F.kp.sz sz, fun b o e h1 h2 => k b o (fun z => by subst z; exact ha.elim (fun q => absurd (Heap.lt_size e) (Nat.not_lt.mpr q)) h2) (F.kp.kp b o e h1 h2)⟩

theorem FS.sto (F : FS g0 g T L h m nw) (n : h'.Ns L m') (s : Heap.SameBut L h h') : FS g0 g T L h' m' nw where
  ok := F.ok.step (Nat.le_trans F.g0g F.le) (ns_nc F.ns) (same_sz s) (fun b o hb e => (s.2 b hb).trans e)
  kp := F.kpT (.inl F.le) (same_sz s) (fun b o hb e => (s.2 b hb).trans e)
  g0g := F.g0g
  ns := n
  le := F.le
  nws := fun p hp => (s.2 _ (F.nL p hp)).trans (F.nws p hp)
  lo := F.lo
  nd := F.nd
  nL := F.nL
theorem FS.ext (F : FS g0 g T L h m nw) (sz : h.objs.size ≤ h'.objs.size) (k : ∀ b o, h.get? b = some o → h'.get? b = some o) : FS g0 g T L h' m nw where
  ok := F.ok.ext sz k
  kp := ⟨Nat.le_trans F.kp.sz sz, fun b o e h1 h2 => k _ _ (F.kp.kp b o e h1 h2)⟩
  g0g := F.g0g
  ns := F.ns.keeps k
  le := F.le
  nws := fun p hp => k _ _ (F.nws p hp)
  lo := F.lo
  nd := F.nd
  nL := F.nL
theorem FS.gsz (F : FS g0 g T L h m nw) : g.objs.size ≤ h.objs.size := F.kp.sz
theorem FS.add (F : FS g0 g T L h m nw) {a : Addr} {o : Obj} (e : h.get? a = some o) (ha : g.objs.size ≤ a) (hf : ∀ p ∈ nw, @Ne Nat p.1 a) (hL : @Ne Nat a L) : FS g0 g T L h m ((a, o) :: nw) where
  ok := F.ok
  kp := F.kp
  g0g := F.g0g
  ns := F.ns
  le := F.le
  nws := fun p hp => by
    rcases List.mem_cons.mp hp with rfl | hp
    · exact e
    · exact F.nws p hp
  lo := fun p hp => by
    rcases List.mem_cons.mp hp with rfl | hp
    · exact .inl ha
    · exact F.lo p hp
  nd := by
    rw [List.map_cons]
    refine List.nodup_cons.mpr ⟨fun hm => ?_, F.nd⟩
    obtain ⟨p, hp, hpa⟩ := List.mem_map.mp hm
    exact hf p hp hpa
  nL := fun p hp => by
    rcases List.mem_cons.mp hp with rfl | hp
    · exact hL
    · exact F.nL p hp
theorem FS.fresh (F : FS g0 g T L h m nw) {a : Addr} (ha : h.objs.size ≤ a) : (∀ p ∈ nw, @Ne Nat p.1 a) ∧ @Ne Nat a L :=
  ⟨fun p hp => Nat.ne_of_lt (Nat.lt_of_lt_of_le (Heap.lt_size (F.nws p hp)) ha), (Nat.ne_of_lt (Nat.lt_of_lt_of_le (ns_lt F.ns) ha)).symm⟩
theorem FS.psh (F : FS g0 g T L h m nw) (o : Obj) (hf : o.isFreed = false := by rfl) : FS g0 g T L (h.push o) m ((h.objs.size, o) :: nw) :=
  (F.ext (by rw [Heap.size_push]; omega) (fun b o' e => Heap.get?_push_of_some o e)).add (Heap.get?_push_size h hf) F.gsz (F.fresh (Nat.le_refl _)).1 (F.fresh (Nat.le_refl _)).2
theorem FS.psh0 (F : FS g0 g T L h m nw) (o : Obj) : FS g0 g T L (h.push o) m nw := F.ext (by rw [Heap.size_push]; omega) (fun b o' e => Heap.get?_push_of_some o e)
theorem FS.at (F : FS g0 g T L h m nw) (i : Nat) {a : Addr} {o : Obj} (hi : nw[i]? = some (a, o)) : h.get? a = some o := F.nws _ (List.mem_of_getElem? hi)
theorem FS.drop (F : FS g0 g T L h m nw) {nw' : List (Addr × Obj)} (hs : nw'.Sublist nw) : FS g0 g T L h m nw' where
  ok := F.ok
  kp := F.kp
  g0g := F.g0g
  ns := F.ns
  le := F.le
  nws := fun p hp => F.nws p (hs.subset hp)
  lo := fun p hp => F.lo p (hs.subset hp)
  nd := F.nd.sublist (hs.map _)
  nL := fun p hp => F.nL p (hs.subset hp)
theorem set_mem {l : List (Addr × Obj)} {i : Nat} {a : Addr} {o o' : Obj} (hi : l[i]? = some (a, o)) (nd : (l.map (·.1)).Nodup) {p : Addr × Obj} (hp : p ∈ l.set i (a, o')) : p = (a, o') ∨ (p ∈ l ∧ p.1 ≠ a) := by
  induction l generalizing i with
  | nil => cases hp
  | cons x l ih =>
    rw [List.map_cons, List.nodup_cons] at nd
    cases i with
    | zero =>
      cases hi
      rcases List.mem_cons.mp hp with rfl | hp
      · exact .inl rfl
      · exact .inr ⟨.tail _ hp, fun z => nd.1 (List.mem_map.mpr ⟨p, hp, z⟩)⟩
    | succ i =>
      rcases List.mem_cons.mp hp with rfl | hp
      · exact .inr ⟨.head _, fun z => nd.1 (List.mem_map.mpr ⟨(a, o), List.mem_of_getElem? hi, z.symm⟩)⟩
      · exact (ih hi nd.2 hp).imp id fun q => ⟨.tail _ q.1, q.2⟩
theorem set_keys {l : List (Addr × Obj)} {i : Nat} {a : Addr} {o o' : Obj} (hi : l[i]? = some (a, o)) : (l.set i (a, o')).map (·.1) = l.map (·.1) := by
  induction l generalizing i with
  | nil => rfl
  | cons x l ih =>
    cases i with
    | zero => cases hi; rfl
    | succ i => rw [List.set_cons_succ, List.map_cons, List.map_cons, ih hi]
theorem FS.upd (F : FS g0 g T L h m nw) (i : Nat) {a : Addr} {o o' : Obj} (hi : nw[i]? = some (a, o)) (hn : NC o) (sz : h.objs.size ≤ h'.objs.size) (k : ∀ b o, b ≠ a → h.get? b = some o → h'.get? b = some o) (e : h'.get? a = some o') :
    FS g0 g T L h' m (nw.set i (a, o')) where
  ok := F.ok.step (F.lo0 (List.mem_of_getElem? hi)) (fun o2 e2 => by rw [F.at i hi] at e2; cases e2; exact hn) sz k
  kp := F.kpT ((F.lo _ (List.mem_of_getElem? hi)).imp id (·.1)) sz k
  g0g := F.g0g
  ns := by
    obtain ⟨oL, es, ep, eL, r⟩ := F.ns
    exact ⟨oL, es, ep, k _ _ (Ne.symm (F.nL _ (List.mem_of_getElem? hi))) eL, r⟩
  le := F.le
  nws := fun p hp => by
    rcases set_mem hi F.nd hp with rfl | ⟨q, hne⟩
    · exact e
    · exact k _ _ hne (F.nws p q)
  lo := fun p hp => by
    rcases set_mem hi F.nd hp with rfl | ⟨q, hne⟩
    · exact F.lo (a, o) (List.mem_of_getElem? hi)
    · exact F.lo p q
  nd := by rw [set_keys hi]; exact F.nd
  nL := fun p hp => by
    rcases set_mem hi F.nd hp with rfl | ⟨q, hne⟩
    · exact F.nL (a, o) (List.mem_of_getElem? hi)
    · exact F.nL p q
theorem FS.updS (F : FS g0 g T L h m nw) (i : Nat) {a : Addr} {o o' : Obj} (hi : nw[i]? = some (a, o)) (hn : NC o) (s : Heap.SameBut a h h') (e : h'.get? a = some o') :
    FS g0 g T L h' m (nw.set i (a, o')) := F.upd i hi hn (same_sz s) (fun b o hb e => (s.2 b hb).trans e) e
theorem FS.call (F : FS g0 g T L h m nw) (k : OK g0 h') (K : Kp [] h h') : FS g0 g T L h' m nw := by
  have nt : ∀ a, g0.objs.size ≤ a → a ∉ tabs := fun a ha q => absurd (F.ok.lt a q) (Nat.not_lt.mpr ha)
  refine ⟨k, F.kp.trans (K.weak (fun _ q => nomatch q)), F.g0g, ?_, F.le, fun p hp => ?_, F.lo, F.nd, F.nL⟩
  · obtain ⟨oL, es, ep, eL, r⟩ := F.ns
    exact ⟨oL, es, ep, K.kp _ _ eL (nt _ (Nat.le_trans F.g0g F.le)) List.not_mem_nil, r⟩
  · exact K.kp _ _ (F.nws p hp) (nt _ (F.lo0 hp)) List.not_mem_nil
theorem FS.call1 (F : FS g0 g T L h m nw) (i : Nat) {a : Addr} {o o' : Obj} (hi : nw[i]? = some (a, o)) (k : OK g0 h') (K : Kp [a] h h') (e : h'.get? a = some o') : FS g0 g T L h' m (nw.set i (a, o')) := by
  have nt : ∀ a, g0.objs.size ≤ a → a ∉ tabs := fun a ha q => absurd (F.ok.lt a q) (Nat.not_lt.mpr ha)
  have hm := List.mem_of_getElem? hi
  have n1 : ∀ b, b ≠ a → b ∉ [a] := fun b hb q => hb (List.mem_singleton.mp q)
  refine ⟨k, ⟨Nat.le_trans F.kp.sz K.sz, fun b ob eb h1 h2 => K.kp _ _ (F.kp.kp b ob eb h1 h2) h1 (n1 b fun z => ?_)⟩, F.g0g, ?_, F.le, fun p hp => ?_, fun p hp => ?_, by rw [set_keys hi]; exact F.nd, fun p hp => ?_⟩
  · subst z
    rcases F.lo _ hm with q | q
    · exact absurd (Heap.lt_size eb) (Nat.not_lt.mpr q)
    · exact h2 q.1
  · obtain ⟨oL, es, ep, eL, r⟩ := F.ns
    exact ⟨oL, es, ep, K.kp _ _ eL (nt _ (Nat.le_trans F.g0g F.le)) (n1 _ (Ne.symm (F.nL _ hm))), r⟩
  · rcases set_mem hi F.nd hp with rfl | ⟨q, hne⟩
    · exact e
    · exact K.kp _ _ (F.nws p q) (nt _ (F.lo0 q)) (n1 _ hne)
  · rcases set_mem hi F.nd hp with rfl | ⟨q, hne⟩
    · exact F.lo (a, o) hm
    · exact F.lo p q
  · rcases set_mem hi F.nd hp with rfl | ⟨q, hne⟩
    · exact F.nL (a, o) hm
    · exact F.nL p q
end

structure Rm (A : Around) (n : Nat) : Prop where
  hd : A.handled = none
  dp : A.depth + n < recursionLimit
  un : A.units + 20 * n < cLine
theorem Rm.le {A : Around} {n k : Nat} (r : Rm A n) (h : k ≤ n) : Rm A k := ⟨r.hd, by have := r.dp; omega, by have := r.un; omega⟩
theorem Rm.in1 {A : Around} {n : Nat} (r : Rm A (n + 1)) : Rm A.in1 n := ⟨r.hd, by have := r.dp; simp only [Around.in1_depth]; omega, by have := r.un; simp only [Around.in1_units]; omega⟩
theorem Rm.deeper {A : Around} {n : Nat} (r : Rm A (n + 1)) (env : Env) : Rm (A.deeper env) n := ⟨r.hd, by have := r.dp; show A.depth + 1 + n < _; omega, by have := r.un; simp only [Around.deeper_units]; omega⟩
end Mine

namespace Mine
abbrev RetP (R : Result → Shared → Prop) (fl : Flow) (s : Shared) : Prop := R (.ok (.ret (match fl with | .ret v => v | _ => .none))) s
abbrev AsP (w : World) (A : Around) (env : Env) (x : Str) (rest : List Stmt) (Q : Flow → Shared → Prop) (E : Value → Shared → Prop) (v : Value) (s : Shared) : Prop :=
  wpAny (model PP w) A (storeName env x v) (fun _ s₂ => wpAny (model PP w) A (execs rest env) Q E s₂) E s
section
variable {g0 g : Heap} {T : List Addr} {L : Addr} {h h' : Heap} {m m' : Str → Option Value} {nw : List (Addr × Obj)} {w : World} {mg mb : Str → Option Value}
theorem OK.ns0 (k : OK g0 h) {a : Addr} {m : Str → Option Value} (n : g0.Ns a m) (ha : a ∉ tabs) : h.Ns a m := by
  obtain ⟨o, es, ep, e, r⟩ := n
  exact ⟨o, es, ep, k.kp a o e ha, r⟩
theorem OK.at0 (k : OK g0 h) (G : Gd w mg mb g0) {a : Addr} {o : Obj} (e : (KK w).lookup a = some o) (ha : a ∉ tabs := by decide) : h.get? a = some o := k.kp a o (G.X _ _ e) ha
theorem OK.code (k : OK g0 h) (G : Gd w mg mb g0) {c : Addr} {q : Str} (e : codeIn (KK w) (.ref c) q = true) (hc : c ∉ tabs := by decide) : h.CodeRec (.ref c) q := by
  obtain ⟨c', o, vs, t, e1, e2, r⟩ := codeRec_of G.X e
  cases e1
  exact ⟨c, o, vs, t, rfl, k.kp _ _ e2 hc, r⟩
theorem CodeRec.same {cv : Value} {q : Str} {a : Addr} (C : h.CodeRec cv q) (hq : q ≠ "") (s : Heap.SameBut a h h') (hn : ∀ o, h.get? a = some o → NC o) : h'.CodeRec cv q := by
  obtain ⟨c, o, vs, t, rfl, e2, r⟩ := C
  refine ⟨c, o, vs, t, rfl, (s.2 c fun z => ?_).trans e2, r⟩
  subst z
  exact CodeRec.ne hq ⟨c, o, vs, t, rfl, e2, r⟩ e2 (hn _ e2) rfl
theorem Kp.list {l : Addr} {xs : Array Value} (K : Kp T h h') (e : h.IsList l xs) (h1 : l ∉ tabs) (h2 : l ∉ T) : h'.IsList l xs := by
  obtain ⟨o, a, r⟩ := e
  exact ⟨o, K.kp _ _ a h1 h2, r⟩
theorem Kp.cell {l : Addr} {v : Option Value} (K : Kp T h h') (e : h.IsCell l v) (h1 : l ∉ tabs) (h2 : l ∉ T) : h'.IsCell l v := by
  obtain ⟨o, a, r⟩ := e
  exact ⟨o, K.kp _ _ a h1 h2, r⟩
theorem Kp.codeRec {c : Addr} {q : Str} (K : Kp T h h') (e : h.CodeRec (.ref c) q) (h1 : c ∉ tabs) (h2 : c ∉ T) : h'.CodeRec (.ref c) q := by
  obtain ⟨c', o, vs, t, e1, a, r⟩ := e
  cases e1
  exact ⟨c, o, vs, t, rfl, K.kp _ _ a h1 h2, r⟩
theorem OK.nt (k : OK g0 h) {a : Addr} (ha : g0.objs.size ≤ a) : a ∉ tabs := fun q => absurd (k.lt a q) (Nat.not_lt.mpr ha)
theorem OK.lim (k : OK g0 h) (G : Gd w mg mb g0) : h.NoLimit := by
  obtain ⟨mc, n, r⟩ := G.nl
  exact ⟨mc, k.ns0 n (by decide), r⟩

theorem enter {A : Around} {n : Nat} {R : Result → Shared → Prop} {s : Shared} {f : Addr} {o : Obj} {fd : FuncData} {body : List Stmt} {args : List Value} {binds : List (Str × Value)}
    (G : Gd w mg mb g0) (k : OK g0 s.heap) (rm : Rm A (n + 1)) (ho : s.heap.get? f = some o) (hd : o.data = .func fd) (hcd : s.heap.CodeRec fd.code fd.qualname) (hb : fd.body = .stmts body)
    (hbind : bindArgs fd ⟨args, []⟩ = pure binds) (hloc' : (binds.all fun x => decide (fd.scope.names.lookup x.1 = some .local)) = true) (hcell' : (fd.scope.names.all fun x => !(x.2 == .cell)) = true)
    (hco : fd.scope.isCoroutine = false) (hgen : fd.scope.isGenerator = false) (hk : fd.scope.kind = .function)
    (h : ∀ h₁, FS g0 s.heap T s.heap.objs.size h₁ (fun x => binds.reverse.lookup x) [] →
      Rm (A.deeper (newEnv fd.scope s.heap.objs.size fd.globals fd.closure (fd.qualname ++ ".<locals>.") (some f) fd.code none fd.builtins)) n →
      (∀ b ob, s.heap.get? b = some ob → h₁.get? b = some ob) →
      wpAny (model PP w) (A.deeper (newEnv fd.scope s.heap.objs.size fd.globals fd.closure (fd.qualname ++ ".<locals>.") (some f) fd.code none fd.builtins))
        (execs body (newEnv fd.scope s.heap.objs.size fd.globals fd.closure (fd.qualname ++ ".<locals>.") (some f) fd.code none fd.builtins))
        (RetP R) (fun _ _ => False) { s with heap := h₁, toks := s.toks + binds.length }) :
    codeAny (model PP w) A (.call (.ref f) ⟨args, []⟩) R s := by
  have hloc := locs hloc'
  have hcell : ∀ x ∈ fd.scope.names, x.2 ≠ .cell := fun x hx => by have q := List.all_eq_true.mp hcell' x hx; simpa using q
  refine codeAny_call_function (by have := rm.dp; omega) ho hd hco hgen hb hcd ?_
  rw [hbind]
  refine wpAny_pure (wpAny_newFunctionEnv hcell hloc (fun h₁ hns hsb => ⟨(k.lim G).fresh _ hsb, codeAny_func ?_⟩) hk)
  have kk : ∀ b ob, s.heap.get? b = some ob → h₁.get? b = some ob := fun b ob e => (hsb.2 b (Nat.ne_of_lt (Heap.lt_size e))).trans (Heap.get?_push_of_some _ e)
  have sz : s.heap.objs.size ≤ h₁.objs.size := by rw [hsb.1, Heap.size_push]; omega
  refine wpAny_mono (h h₁ ⟨k.ext sz kk, ⟨sz, fun b ob e _ _ => kk b ob e⟩, k.sz, hns, Nat.le_refl _, fun _ q => (nomatch q), fun _ q => (nomatch q), List.nodup_nil, fun _ q => (nomatch q)⟩ (rm.deeper _) kk) (fun _ _ x => x) (fun _ _ x => x.elim)

theorem enterC {A : Around} {n : Nat} {R : Result → Shared → Prop} {s : Shared} {f : Addr} {o : Obj} {fd : FuncData} {body : List Stmt} {args : List Value} {binds : List (Str × Value)}
    (G : Gd w mg mb g0) (k : OK g0 s.heap) (rm : Rm A (n + 1)) (ho : s.heap.get? f = some o) (hd : o.data = .func fd) (hcd : s.heap.CodeRec fd.code fd.qualname) (hb : fd.body = .stmts body)
    (hbind : bindArgs fd ⟨args, []⟩ = pure binds) (hclo : fd.closure = [])
    (hkind' : (binds.all fun y => fd.scope.names.lookup y.1 == some .local || fd.scope.names.lookup y.1 == some .cell) = true)
    (hco : fd.scope.isCoroutine = false) (hgen : fd.scope.isGenerator = false) (hk : fd.scope.kind = .function)
    (h : ∀ h₁ tk, FS g0 s.heap T s.heap.objs.size h₁ (bindL (callEnvC fd s.heap.objs.size f).kindOf binds fun _ => none) [] →
      (∀ x c, (cellsFrom (s.heap.objs.size + 1) fd.scope.names []).lookup x = some c → h₁.IsCell c (bindC (callEnvC fd s.heap.objs.size f).kindOf binds (fun _ => none) x)) →
      Rm (A.deeper (callEnvC fd s.heap.objs.size f)) n → (∀ b ob, s.heap.get? b = some ob → h₁.get? b = some ob) →
      wpAny (model PP w) (A.deeper (callEnvC fd s.heap.objs.size f)) (execs body (callEnvC fd s.heap.objs.size f))
        (RetP R) (fun _ _ => False) { s with heap := h₁, toks := tk }) :
    codeAny (model PP w) A (.call (.ref f) ⟨args, []⟩) R s := by
  have hkind := kindsX hkind'
  refine codeAny_call_function (by have := rm.dp; omega) ho hd hco hgen hb hcd ?_
  rw [hbind, hclo]
  refine wpAny_pure (wpAny_newFunctionEnv_cells hk (hkind _) fun env' he s' x => ?_)
  subst he
  refine ⟨(k.lim G).keeps x.toInCall.keep, codeAny_func ?_⟩
  obtain ⟨h₁, tk, rfl, _⟩ := x.done
  have kk := x.toInCall.keep
  have sz : s.heap.objs.size ≤ h₁.objs.size := Nat.le_of_lt (ns_lt x.toInCall.ns)
  refine wpAny_mono (h h₁ tk ⟨k.ext sz kk, ⟨sz, fun b ob e _ _ => kk b ob e⟩, k.sz, x.toInCall.ns, Nat.le_refl _, fun _ q => (nomatch q), fun _ q => (nomatch q), List.nodup_nil, fun _ q => (nomatch q)⟩ x.cell (rm.deeper _) kk) (fun _ _ x => x) (fun _ _ x => x.elim)

section
variable {A : Around} {E : Value → Shared → Prop} {s : Shared} {env : Env} {x : Str} {pos : Pos} {v : Value}
theorem nL {Q : Value → Shared → Prop} (F : FS g0 g T L s.heap m nw) (hv : m x = some v) (h : Q v s) (hL : env.locals = L := by rfl) (hk : env.scope.kind = .function := by rfl) (hx : env.kindOf x = some .local := by rfl) (hd : (x == ("__debug__" : Str)) = false := by rfl) :
    wpAny (model PP w) A (eval (.Name x pos) env) Q E s := wpAny_Name (wpAny_loadName_local hk hx (hL ▸ F.ns) hv h) hd
theorem nl {Q : Value → Shared → Prop} (F : FS g0 g T L s.heap m nw) (hv : m x = some v) (h : Q v s) (hL : env.locals = L := by rfl) (hk : env.scope.kind = .function := by rfl) (hx : env.kindOf x = some .local := by rfl) :
    wpAny (model PP w) A (loadName env x) Q E s := wpAny_loadName_local hk hx (hL ▸ F.ns) hv h
theorem nG {Q : Value → Shared → Prop} (G : Gd w mg mb g0) (F : FS g0 g T L s.heap m nw) (e : nsIn (KK w) mainGlobals x = some (some v)) (h : Q v s) (hg : env.globals = mainGlobals := by rfl) (hk : env.scope.kind = .function := by rfl) (hx : env.kindOf x = some .globalImplicit := by rfl) (hd : (x == ("__debug__" : Str)) = false := by rfl) :
    wpAny (model PP w) A (eval (.Name x pos) env) Q E s := Name_function_global hk hx (loadGlobal_global (hg ▸ F.ok.ns0 G.g (by decide)) (mg_of G.X G.g e) h) hd
theorem nB {Q : Value → Shared → Prop} (G : Gd w mg mb g0) (F : FS g0 g T L s.heap m nw) (e : nsIn (KK w) mainGlobals x = some none) (hv : bootBuiltins x = some v) (h : Q v s) (hn : x ≠ "__name__" := by decide) (hg : env.globals = mainGlobals := by rfl) (hb : env.builtins = builtinsNs := by rfl) (hk : env.scope.kind = .function := by rfl) (hx : env.kindOf x = some .globalImplicit := by rfl) (hd : (x == ("__debug__" : Str)) = false := by rfl) :
    wpAny (model PP w) A (eval (.Name x pos) env) Q E s :=
  Name_function_global hk hx (loadGlobal_builtin (hg ▸ F.ok.ns0 G.g (by decide)) (mg_none_of G.X G.g e) (hb ▸ F.ok.ns0 G.b (by decide)) ((G.bi x hn).trans hv) h) hd
theorem nF {Q : Value → Shared → Prop} {c : Addr} (hc : env.cells.lookup x = some c) (e : s.heap.IsCell c (some v)) (h : Q v s) (hk : env.scope.kind = .function := by rfl) (hx : env.kindOf x = some .free := by rfl) (hd : (x == ("__debug__" : Str)) = false := by rfl) (hn : (x == ("__classdict__" : Str)) = false := by rfl) :
    wpAny (model PP w) A (eval (.Name x pos) env) Q E s := wpAny_Name (wpAny_loadName_free hk hx hc e h hn) hd
theorem nC {Q : Value → Shared → Prop} {c : Addr} (hc : env.cells.lookup x = some c) (e : s.heap.IsCell c (some v)) (h : Q v s) (hk : env.scope.kind = .function := by rfl) (hx : env.kindOf x = some .cell := by rfl) (hd : (x == ("__debug__" : Str)) = false := by rfl) :
    wpAny (model PP w) A (eval (.Name x pos) env) Q E s := wpAny_Name (wpAny_loadName_cell hk hx hc e h) hd
theorem sL {Q : Unit → Shared → Prop} (F : FS g0 g T L s.heap m nw)
    (h : ∀ h', FS g0 g T L h' (fun y => if y = x then some v else m y) nw → Q () { s with heap := h', toks := s.toks + 1 })
    (hL : env.locals = L := by rfl) (hk : env.scope.kind = .function := by rfl) (hx : env.kindOf x = some .local := by rfl) : wpAny (model PP w) A (storeName env x v) Q E s := by
  subst hL
  exact wpAny_storeName_local hx F.ns (fun h' n s' => h h' (F.sto n s')) (by rw [hk]; rfl)
theorem sC {Q : Unit → Shared → Prop} (F : FS g0 g T L s.heap m nw) {c : Addr} (i : Nat) {o : Obj} {v₀ : Option Value} (hc : env.cells.lookup x = some c) (hi : nw[i]? = some (c, o)) (hd : o.data = .cell v₀)
    (h : ∀ h' o', o'.data = .cell (some v) → Heap.SameBut c s.heap h' → FS g0 g T L h' m (nw.set i (c, o')) → Q () { s with heap := h' })
    (hk : env.scope.kind = .function := by rfl) (hx : env.kindOf x = some .cell := by rfl) : wpAny (model PP w) A (storeName env x v) Q E s := by
  refine wpAny_storeName_cell hk hx hc ⟨o, F.at i hi, hd⟩ fun h' hc' hs' => ?_
  obtain ⟨o', e', d'⟩ := hc'
  exact h h' o' d' hs' (F.updS i hi (fun vs q t z => by rw [hd] at z; cases z) hs' e')
end
end
end Mine

namespace Mine
section
variable {g0 g : Heap} {T : List Addr} {L : Addr} {h h' : Heap} {m m' : Str → Option Value} {nw : List (Addr × Obj)} {w : World} {mg mb : Str → Option Value}

theorem BuiltinsAt.up {P : Addr} (k : OK g0 h) (hb : g0.BuiltinsAt mg P) (hn : ∀ bm ob, g0.get? bm = some ob → ob.cls = .type "module" → bm ∉ tabs) : h.BuiltinsAt mg P := by
  obtain ⟨bm, ob, a1, a2, a3, a4, a5, a6, r⟩ := hb
  exact ⟨bm, ob, a1, a2, a3, a4, k.kp _ _ a5 (hn _ _ a5 a6), a6, r⟩
theorem CodeHd.up {c P : Addr} (k : OK g0 h) (C : CodeHd g0 c P) (hc : c ∉ tabs) : CodeHd h c P := by
  obtain ⟨o, vs, a1, a2, a3, a4, a5, a6, a7, e, r⟩ := C
  exact ⟨o, vs, a1, a2, a3, a4, a5, a6, a7, k.kp _ _ e hc, r⟩

theorem OK.tab {P : Addr} {ln : Int} {q : Str} (k : OK g0 h) (hP : (P = tI2D ∧ ln = pI2D ∧ q = qI2D) ∨ (P = tD2I ∧ ln = pD2I ∧ q = qD2I) ∨ (P = tLL ∧ ln = pLL ∧ q = qLL)) : TI h P ln q := by
  rcases hP with ⟨rfl, rfl, rfl⟩ | ⟨rfl, rfl, rfl⟩ | ⟨rfl, rfl, rfl⟩
  · exact k.t1
  · exact k.t2
  · exact k.t3
theorem OK.fill {P : Addr} {ln : Int} {q : Str} {c : Addr} (k : OK g0 h) (hP : (P = tI2D ∧ ln = pI2D ∧ q = qI2D) ∨ (P = tD2I ∧ ln = pD2I ∧ q = qD2I) ∨ (P = tLL ∧ ln = pLL ∧ q = qLL))
    (sz : h.objs.size ≤ h'.objs.size) (kp : ∀ b o, b ≠ P → h.get? b = some o → h'.get? b = some o) (e : h'.get? P = some (tabObj #[.int ln 0, .int 4 0, .ref c])) (C : h'.CodeRec (.ref c) q) : OK g0 h' := by
  have key : ∀ {P' : Addr} {ln' : Int} {q' : Str}, P' ≠ P → TI h P ln q → TI h P' ln' q' → (q' ≠ "") → TI h' P' ln' q' := by
    intro P' ln' q' hne tP t hq
    refine t.keeps (fun o e => kp _ _ hne e) (fun c' o C' e' => kp _ _ (fun z => ?_) e')
    subst z
    obtain ⟨ps, eP, r⟩ := tP
    obtain ⟨c2, o2, vs2, t2, f1, f2, f3, f4⟩ := C'
    cases f1
    rw [eP] at f2
    cases f2
    cases f3
    rcases r with rfl | ⟨_, rfl, _⟩
    · cases f4
    · cases f4
  have TP := k.tab hP
  have new : TI h' P ln q := ⟨_, e, .inr ⟨c, rfl, C⟩⟩
  have bs : ∀ b o, g0.get? b = some o → b ∉ tabs → h'.get? b = some o := fun b o e' q' => kp b o (fun z => q' (by
    subst z
    rcases hP with ⟨rfl, _, _⟩ | ⟨rfl, _, _⟩ | ⟨rfl, _, _⟩ <;> decide)) (k.kp b o e' q')
  refine ⟨Nat.le_trans k.sz sz, bs, k.lt, ?_, ?_, ?_⟩
  · rcases hP with ⟨rfl, rfl, rfl⟩ | ⟨rfl, rfl, rfl⟩ | ⟨rfl, rfl, rfl⟩
    · exact new
    · exact key (by decide) TP k.t1 (by decide)
    · exact key (by decide) TP k.t1 (by decide)
  · rcases hP with ⟨rfl, rfl, rfl⟩ | ⟨rfl, rfl, rfl⟩ | ⟨rfl, rfl, rfl⟩
    · exact key (by decide) TP k.t2 (by decide)
    · exact new
    · exact key (by decide) TP k.t2 (by decide)
  · rcases hP with ⟨rfl, rfl, rfl⟩ | ⟨rfl, rfl, rfl⟩ | ⟨rfl, rfl, rfl⟩
    · exact key (by decide) TP k.t3 (by decide)
    · exact key (by decide) TP k.t3 (by decide)
    · exact new

theorem OK.crnt {cv : Value} {q : Str} (k : OK g0 h) (C : h.CodeRec cv q) : ∃ c, cv = .ref c ∧ c ∉ tabs ∧ h.CodeRec (.ref c) q := by
  obtain ⟨c, o, vs, t, rfl, e2, e3, e4⟩ := C
  refine ⟨c, rfl, fun hm => ?_, ⟨c, o, vs, t, rfl, e2, e3, e4⟩⟩
  have key : ∀ {P : Addr} {ln : Int} {q' : Str}, TI h P ln q' → c ≠ P := by
    intro P ln q' t z
    subst z
    obtain ⟨ps, eP, r⟩ := t
    rw [e2] at eP
    cases eP
    cases e3
    rcases r with rfl | ⟨_, rfl, _⟩ <;> cases e4
  rcases List.mem_cons.mp hm with z | hm
  · exact key k.t1 z
  rcases List.mem_cons.mp hm with z | hm
  · exact key k.t2 z
  rcases List.mem_cons.mp hm with z | hm
  · exact key k.t3 z
  cases hm

theorem mkFn {A : Around} {E : Value → Shared → Prop} {s : Shared} {name qual : Str} {params : Arguments} {body : List Stmt} {scope : Scope} {env : Env} {pos : Pos} {firstLine : Nat} {clos : List (Str × Addr)} {Q : Value → Shared → Prop} {c P : Addr}
    (G : Gd w mg mb g0) (k : OK g0 s.heap) (hP : (P = tI2D ∧ (pos.line : Int) = pI2D ∧ qual = qI2D) ∨ (P = tD2I ∧ (pos.line : Int) = pD2I ∧ qual = qD2I) ∨ (P = tLL ∧ (pos.line : Int) = pLL ∧ qual = qLL)) (hcol : pos.col = 4)
    (C : CodeHd g0 c P) (hc : c ∉ tabs) (hcode : env.code = .ref c) (hcl : closureFor scope env = pure clos) (hge0 : env.globals = mainGlobals)
    (h : ∀ f doc pm c₁ ctv h' tk, OK g0 h' → Kp [] s.heap h' → s.heap.objs.size ≤ f → c₁ ∉ tabs → h'.CodeRec (.ref c₁) qual →
      h'.get? f = some { cls := .type "function", data := .func (fnX name qual params body scope clos .none .none doc pm none (.ref c₁) ctv) } → Q (.ref f) { s with heap := h', toks := tk }) :
    wpAny (model PP w) A (makeFunction name qual params (.stmts body) scope env [] [] [] pos firstLine) Q E s := by
  have hPt : P ∈ tabs := by rcases hP with ⟨rfl, _, _⟩ | ⟨rfl, _, _⟩ | ⟨rfl, _, _⟩ <;> decide
  have hb : s.heap.BuiltinsAt mg P := BuiltinsAt.up k (G.ba P hPt) (fun bm ob e hcl => fun q => by
    have e1 : g0.get? bm = some ob := e
    have e2 := G.tb bm q
    rw [e1] at e2
    cases e2
    cases hcl)
  have hg : s.heap.Ns mainGlobals mg := k.ns0 G.g (by decide)
  have C' := CodeHd.up k C hc
  obtain ⟨ps, eP, r⟩ := k.tab hP
  rcases r with rfl | ⟨c', rfl, CR⟩
  · refine makeFunction_K hcl hge0 hg hcode C' eP trivial rfl (by rcases hP with ⟨rfl, _, _⟩ | ⟨rfl, _, _⟩ | ⟨rfl, _, _⟩ <;> decide) hb ?_
    intro c' ctv doc h' tk hx hge hlt hrec htb
    have kx : ∀ b o, b ≠ P → s.heap.get? b = some o → h'.get? b = some o := fun b o hne e => hx b o hne e
    have sz : s.heap.objs.size ≤ h'.objs.size := Nat.le_of_lt (Nat.lt_of_le_of_lt hge hlt)
    have htb' : h'.get? P = some (tabObj #[.int pos.line 0, .int 4 0, .ref c']) := by rw [htb, hcol]; rfl
    have k' : OK g0 h' := k.fill hP sz kx htb' hrec
    obtain ⟨c2, z2, n2, _⟩ := k'.crnt hrec
    cases z2
    refine h _ _ _ _ _ _ _ (k'.ext (by rw [Heap.size_push]; (clear hP hcol hc hge0 hge hlt sz n2; omega)) (fun b o e => Heap.get?_push_of_some _ e)) ⟨by rw [Heap.size_push]; (clear hP hcol hc hge0 hge hlt n2; omega), fun b o e q _ => Heap.get?_push_of_some _ (kx b o (fun z => q (z ▸ hPt)) e)⟩ sz n2 (hrec.keeps fun b o e => Heap.get?_push_of_some _ e) (Heap.get?_push_size _ rfl)
  · refine makeFunction_hit (cv := .ref c') hcl hge0 hg hcode C' eP trivial ?_ hb ?_
    · show codeAmong pos [.int pos.line 0, .int 4 0, .ref c'] = _
      unfold codeAmong
      rw [hcol]
      simp
    intro ctv doc h' tk kx sz
    obtain ⟨c2, z2, n2, _⟩ := k.crnt CR
    cases z2
    refine h _ _ _ _ _ _ _ (k.ext (Nat.le_trans sz (by rw [Heap.size_push]; (clear hP hcol hc hge0 sz n2; omega))) (fun b o e => Heap.get?_push_of_some _ (kx _ _ e))) ⟨Nat.le_trans sz (by rw [Heap.size_push]; (clear hP hcol hc hge0 sz n2; omega)), fun b o e _ _ => Heap.get?_push_of_some _ (kx b o e)⟩ sz n2 (CR.keeps fun b o e => Heap.get?_push_of_some _ (kx _ _ e)) (Heap.get?_push_size _ rfl)
end
end Mine

namespace Mine
section
variable {w : World} {A : Around} {E : Value → Shared → Prop} {s : Shared} {Q : Value → Shared → Prop} {t u : Tok}
theorem addT {a b : Int} (c : Int) (e : a + b = c) (h : Q (.int c s.toks) { s with toks := s.toks + 1 }) : wpAny (model PP w) A (binaryOp .Add (.int a t) (.int b u)) Q E s := add_int (by rw [e]; exact h)
theorem subT {a b : Int} (c : Int) (e : a - b = c) (h : Q (.int c s.toks) { s with toks := s.toks + 1 }) : wpAny (model PP w) A (binaryOp .Sub (.int a t) (.int b u)) Q E s := sub_int (by rw [e]; exact h)
theorem mulT {a b : Int} (c : Int) (e : a * b = c) (hb : Builtin.Int.intBits a ≤ 64 ∨ Builtin.Int.intBits b ≤ 64) (h : Q (.int c s.toks) { s with toks := s.toks + 1 }) : wpAny (model PP w) A (binaryOp .Mult (.int a t) (.int b u)) Q E s :=
  mul_int (by rw [e]; exact h) (hb.elim IntMulOk.of_left IntMulOk.of_right)
theorem rsh1T {a : Int} (x : Nat) (e : a = x) (h : Q (.int ((x / 2 : Nat) : Int) s.toks) { s with toks := s.toks + 1 }) : wpAny (model PP w) A (binaryOp .RShift (.int a t) (.int 1 u)) Q E s := by
  subst e
  exact wpAny_rshift1_int (by omega) (by have : ((x : Int) / 2) = ((x / 2 : Nat) : Int) := by omega
                                         rw [this]; exact h)
theorem rshT {a : Int} {n : Nat} (c : Int) (e : a.fdiv (2 ^ n) = c) (h : Q (.int c s.toks) { s with toks := s.toks + 1 }) : wpAny (model PP w) A (binaryOp .RShift (.int a t) (.int (n : Int) u)) Q E s :=
  rshift_int (by (clear e; omega)) (by rw [Int.toNat_natCast, e]; exact h)
theorem lshT {a : Int} {n : Nat} (c : Int) (e : a * 2 ^ n = c) (hA : A.handled = none) (hb : Builtin.Int.intBits a + n ≤ 2 ^ 27) (h : Q (.int c s.toks) { s with toks := s.toks + 1 }) : wpAny (model PP w) A (binaryOp .LShift (.int a t) (.int (n : Int) u)) Q E s :=
  lshift_int_or hA (fun q => by (clear e hb; omega)) (fun _ => by (clear e; omega)) (fun _ => by rw [Int.toNat_natCast, e]; exact h)
theorem bits_lt {a : Int} {k : Nat} (h0 : 0 ≤ a) (h : a < 2 ^ k) : Builtin.Int.intBits a ≤ k := by
  refine intBits_le_iff.mpr ?_
  have : ((a.natAbs : Nat) : Int) < ((2 ^ k : Nat) : Int) := by
    rw [Int.natCast_pow]
    have : ((a.natAbs : Nat) : Int) = a := by (clear h; omega)
    rw [this]; exact h
  exact Int.ofNat_lt.mp this
theorem bits_nat {a k : Nat} (h : a < 2 ^ k) : Builtin.Int.intBits (a : Int) ≤ k := intBits_le_iff.mpr (by rw [Int.natAbs_natCast]; exact h)
end

def dsum (n : Nat) : List Int → Int
  | [] => 0
  | d :: r => d + 2 ^ n * dsum n r
theorem dsum_append (n : Nat) : ∀ xs ys : List Int, dsum n (xs ++ ys) = dsum n xs + 2 ^ (n * xs.length) * dsum n ys
  | [], ys => by simp [dsum]
  | x :: xs, ys => by
    rw [List.cons_append, dsum, dsum, dsum_append n xs ys, List.length_cons, Nat.mul_add, Nat.mul_one, Int.pow_add, Int.mul_add, Int.add_assoc]
    congr 2
    rw [Int.mul_comm (2 ^ (n * xs.length)) (2 ^ n), Int.mul_assoc]
theorem dsum_bound (n : Nat) : ∀ xs : List Int, (∀ d ∈ xs, 0 ≤ d ∧ d < 2 ^ n) → 0 ≤ dsum n xs ∧ dsum n xs < 2 ^ (n * xs.length)
  | [], _ => by simp [dsum]
  | x :: xs, h => by
    obtain ⟨a1, a2⟩ := h x (.head _)
    obtain ⟨b1, b2⟩ := dsum_bound n xs fun d hd => h d (.tail _ hd)
    rw [dsum, List.length_cons, Nat.mul_add, Nat.mul_one, Int.pow_add]
    have hp : (0 : Int) < 2 ^ n := Int.pow_pos (by (clear a1 a2 b1 b2; omega))
    refine ⟨Int.add_nonneg a1 (Int.mul_nonneg (Int.le_of_lt hp) b1), ?_⟩
    have : 2 ^ n * dsum n xs ≤ 2 ^ n * (2 ^ (n * xs.length) - 1) := Int.mul_le_mul_of_nonneg_left (by (clear a1 a2 b1 hp; omega)) (Int.le_of_lt hp)
    rw [Int.mul_sub, Int.mul_one, Int.mul_comm (2 ^ n) (2 ^ (n * xs.length))] at this
    (clear a1 b1 b2 hp; omega)
theorem dsum_mid (n : Nat) (ds : List Int) {Lo mid Hi : Nat} (h1 : Lo ≤ mid) (h2 : mid ≤ Hi) (h3 : Hi ≤ ds.length) :
    dsum n ((ds.drop mid).take (Hi - mid)) * 2 ^ ((mid - Lo) * n) + dsum n ((ds.drop Lo).take (mid - Lo)) = dsum n ((ds.drop Lo).take (Hi - Lo)) := by
  have e : (ds.drop Lo).take (Hi - Lo) = (ds.drop Lo).take (mid - Lo) ++ (ds.drop mid).take (Hi - mid) := by
    have : Hi - Lo = (mid - Lo) + (Hi - mid) := by rw [Nat.add_comm]; exact (Nat.sub_add_sub_cancel h2 h1).symm
    rw [this, List.take_add, List.drop_drop]
    congr 3
    first | exact Nat.add_sub_cancel' h1 | exact (Nat.add_sub_cancel' h1).symm
  rw [e, dsum_append]
  have hl : ((ds.drop Lo).take (mid - Lo)).length = mid - Lo := by rw [List.length_take, List.length_drop, Nat.min_eq_left (Nat.sub_le_sub_right (Nat.le_trans h2 h3) _)]
  rw [hl, Int.add_comm, Int.mul_comm (2 ^ _), Nat.mul_comm n]
theorem dsum_one (n : Nat) (ds : List Int) {i : Nat} (h : i < ds.length) : dsum n ((ds.drop i).take 1) = ds[i] := by
  rw [List.drop_eq_getElem_cons h, List.take_succ_cons, List.take_zero, dsum, dsum, Int.mul_zero, Int.add_zero]
theorem intsAre_get {vs : List Value} {ds : List Int} (hi : IntsAre vs ds) {i : Nat} (h : i < ds.length) : ∃ t, vs[i]? = some (.int ds[i] t) := by
  induction hi generalizing i with
  | nil => cases h
  | cons n t hi ih =>
    cases i with
    | zero => exact ⟨t, rfl⟩
    | succ i => simpa using ih (i := i) (by simpa using h)
end Mine

namespace Mine
section
variable {w : World} {A : Around} {E : Value → Shared → Prop} {Q : Value → Shared → Prop} {t u : Tok} {hp : Heap} {gn : Array GenState} {dr : Drawn} {tk : Nat} {os : OsState}
  {g0 g : Heap} {T : List Addr} {L : Addr} {m : Str → Option Value} {nw : List (Addr × Obj)} {mg mb : Str → Option Value} {env : Env} {x : Str} {pos : Pos} {v : Value} {k : Nat}
theorem rI {i : Int} (h : Q (.int i tk) ⟨hp, gn, dr, tk + 1, os⟩) : wpAny (model PP w) A (eval (.Constant (.int i) k pos) env) Q E ⟨hp, gn, dr, tk, os⟩ := wpAny_Constant_int h
theorem rS {i : Str} (h : Q (.str i tk) ⟨hp, gn, dr, tk + 1, os⟩) : wpAny (model PP w) A (eval (.Constant (.str i) k pos) env) Q E ⟨hp, gn, dr, tk, os⟩ := wpAny_Constant_str h
theorem rAdd {a b : Int} (c : Int) (e : a + b = c) (h : Q (.int c tk) ⟨hp, gn, dr, tk + 1, os⟩) : wpAny (model PP w) A (binaryOp .Add (.int a t) (.int b u)) Q E ⟨hp, gn, dr, tk, os⟩ := addT c e h
theorem rSub {a b : Int} (c : Int) (e : a - b = c) (h : Q (.int c tk) ⟨hp, gn, dr, tk + 1, os⟩) : wpAny (model PP w) A (binaryOp .Sub (.int a t) (.int b u)) Q E ⟨hp, gn, dr, tk, os⟩ := subT c e h
theorem rMul {a b : Int} (c : Int) (e : a * b = c) (hb : Builtin.Int.intBits a ≤ 64 ∨ Builtin.Int.intBits b ≤ 64) (h : Q (.int c tk) ⟨hp, gn, dr, tk + 1, os⟩) : wpAny (model PP w) A (binaryOp .Mult (.int a t) (.int b u)) Q E ⟨hp, gn, dr, tk, os⟩ := mulT c e hb h
theorem rRsh1 {a : Int} (x : Nat) (e : a = x) (h : Q (.int ((x / 2 : Nat) : Int) tk) ⟨hp, gn, dr, tk + 1, os⟩) : wpAny (model PP w) A (binaryOp .RShift (.int a t) (.int 1 u)) Q E ⟨hp, gn, dr, tk, os⟩ := rsh1T x e h
theorem rRsh {a n' : Int} (n : Nat) (c : Int) (en : n' = n) (e : a.fdiv (2 ^ n) = c) (h : Q (.int c tk) ⟨hp, gn, dr, tk + 1, os⟩) : wpAny (model PP w) A (binaryOp .RShift (.int a t) (.int n' u)) Q E ⟨hp, gn, dr, tk, os⟩ := by
  subst en
  exact rshT c e h
theorem rLsh {a n' : Int} (n : Nat) (c : Int) (en : n' = n) (e : a * 2 ^ n = c) (hA : A.handled = none) (hb : Builtin.Int.intBits a + n ≤ 2 ^ 27) (h : Q (.int c tk) ⟨hp, gn, dr, tk + 1, os⟩) : wpAny (model PP w) A (binaryOp .LShift (.int a t) (.int n' u)) Q E ⟨hp, gn, dr, tk, os⟩ := by
  subst en
  exact lshT c e hA hb h
theorem rEq {a b : Int} (h : Q (.bool (a == b)) ⟨hp, gn, dr, tk, os⟩) : wpAny (model PP w) A (compareOp .Eq (.int a t) (.int b u)) Q E ⟨hp, gn, dr, tk, os⟩ := eq_int h
theorem rSt {Q : Unit → Shared → Prop} (F : FS g0 g T L hp m nw)
    (h : ∀ h', FS g0 g T L h' (fun y => if y = x then some v else m y) nw → Q () ⟨h', gn, dr, tk + 1, os⟩)
    (hL : env.locals = L := by rfl) (hk : env.scope.kind = .function := by rfl) (hx : env.kindOf x = some .local := by rfl) : wpAny (model PP w) A (storeName env x v) Q E ⟨hp, gn, dr, tk, os⟩ := sL F h hL hk hx
theorem rAs {x : Str} {pos' : Pos} {value : Expr} {rest : List Stmt} {Q : Flow → Shared → Prop}
    (h : wpAny (model PP w) A (eval value env) (AsP w A env x rest Q E) E ⟨hp, gn, dr, tk, os⟩)
    (hs : swapsWith value (some (.Name x pos')) pos.line env = pure false := by rfl) : wpAny (model PP w) A (execs (.Assign [.Name x pos'] value pos :: rest) env) Q E ⟨hp, gn, dr, tk, os⟩ := wpAny_execs_cons (wpAny_Assign_Name h hs)
theorem rRet {e : Expr} {rest : List Stmt} {Q : Flow → Shared → Prop}
    (h : wpAny (model PP w) A (eval e env) (fun v s₁ => Q (.ret v) s₁) E ⟨hp, gn, dr, tk, os⟩) : wpAny (model PP w) A (execs (.Return (some e) pos :: rest) env) Q E ⟨hp, gn, dr, tk, os⟩ := wpAny_execs_cons (wpAny_Return_some h)
theorem rIf {test : Expr} {body orelse rest : List Stmt} {Q : Flow → Shared → Prop}
    (h : wpAny (model PP w) A (isTrue test env (eval test env)) (fun b s₂ => if b = true then wpAny (model PP w) A (execs body env) (fun f s' => match f with | .next => wpAny (model PP w) A (execs rest env) Q E s' | f => Q f s') E s₂
      else wpAny (model PP w) A (execs orelse env) (fun f s' => match f with | .next => wpAny (model PP w) A (execs rest env) Q E s' | f => Q f s') E s₂) E ⟨hp, gn, dr, tk, os⟩) :
    wpAny (model PP w) A (execs (.If test body orelse pos :: rest) env) Q E ⟨hp, gn, dr, tk, os⟩ := wpAny_execs_cons (wpAny_If h)
theorem iteF {p : Prop} [Decidable p] {a b : Prop} (h : ¬ p) (x : b) : if p then a else b := by rw [if_neg h]; exact x
theorem iteT {p : Prop} [Decidable p] {a b : Prop} (h : p) (x : a) : if p then a else b := by rw [if_pos h]; exact x
theorem nilNext {rest : List Stmt} {Q : Flow → Shared → Prop} (h : wpAny (model PP w) A (execs rest env) Q E ⟨hp, gn, dr, tk, os⟩) :
    wpAny (model PP w) A (execs [] env) (fun f s' => match f with | .next => wpAny (model PP w) A (execs rest env) Q E s' | f => Q f s') E ⟨hp, gn, dr, tk, os⟩ := wpAny_execs_nil h
theorem rCW {a : Addr} {o : Obj} {fd : FuncData} {e : Expr} {args : List Expr} (_ : hp.get? a = some o) (hd : o.data = .func fd) (h : wpAny (model PP w) A (spliced (backTo pos (starEach (e :: args) env))) (fun vs s₁ => s₁.heap.get? a = some o ∧
      codeAny (model PP w) A (.call (.ref a) ⟨vs, []⟩) (fun r s' => match r with | .ok (.ret v) => Q v s' | .ok _ => False | .error e => E e s') s₁) E ⟨hp, gn, dr, tk, os⟩)
      (he : starEach (e :: args) env = (false, eval e env) :: starEach args env := by rfl) :
    wpAny (model PP w) A (callWith pos (.ref a) [] (backTo pos (starEach (e :: args) env)) []) Q E ⟨hp, gn, dr, tk, os⟩ := by
  rw [he] at h ⊢
  exact Calls.callWith_function (o := o) (fd := fd) (Calls.evalArgs_plain (wpAny_mono h (fun _ _ h₁ => ⟨⟨h₁.1, hd⟩, by rw [List.nil_append]; exact wpAny_call h₁.2⟩) fun _ _ x => x))
theorem ent {n : Nat} {R : Result → Shared → Prop} {f : Addr} {o : Obj} {fd : FuncData} {body : List Stmt} {args : List Value} {binds : List (Str × Value)}
    (G : Gd w mg mb g0) (k : OK g0 hp) (rm : Rm A (n + 1)) (ho : hp.get? f = some o) (hd : o.data = .func fd) (hcd : hp.CodeRec fd.code fd.qualname) (hb : fd.body = .stmts body)
    (hbind : bindArgs fd ⟨args, []⟩ = pure binds) (hloc' : (binds.all fun x => decide (fd.scope.names.lookup x.1 = some .local)) = true) (hcell' : (fd.scope.names.all fun x => !(x.2 == .cell)) = true)
    (hco : fd.scope.isCoroutine = false) (hgen : fd.scope.isGenerator = false) (hk : fd.scope.kind = .function)
    (h : ∀ h₁ tk', FS g0 hp T hp.objs.size h₁ (fun x => binds.reverse.lookup x) [] →
      Rm (A.deeper (newEnv fd.scope hp.objs.size fd.globals fd.closure (fd.qualname ++ ".<locals>.") (some f) fd.code none fd.builtins)) n →
      (∀ b ob, hp.get? b = some ob → h₁.get? b = some ob) →
      wpAny (model PP w) (A.deeper (newEnv fd.scope hp.objs.size fd.globals fd.closure (fd.qualname ++ ".<locals>.") (some f) fd.code none fd.builtins))
        (execs body (newEnv fd.scope hp.objs.size fd.globals fd.closure (fd.qualname ++ ".<locals>.") (some f) fd.code none fd.builtins))
        (RetP R) (fun _ _ => False) ⟨h₁, gn, dr, tk', os⟩) :
    codeAny (model PP w) A (.call (.ref f) ⟨args, []⟩) R ⟨hp, gn, dr, tk, os⟩ := enter (T := T) G k rm ho hd hcd hb hbind hloc' hcell' hco hgen hk fun h₁ => h h₁ _
theorem entC {n : Nat} {R : Result → Shared → Prop} {f : Addr} {o : Obj} {fd : FuncData} {body : List Stmt} {args : List Value} {binds : List (Str × Value)}
    (G : Gd w mg mb g0) (k : OK g0 hp) (rm : Rm A (n + 1)) (ho : hp.get? f = some o) (hd : o.data = .func fd) (hcd : hp.CodeRec fd.code fd.qualname) (hb : fd.body = .stmts body)
    (hbind : bindArgs fd ⟨args, []⟩ = pure binds) (hclo : fd.closure = [])
    (hkind' : (binds.all fun y => fd.scope.names.lookup y.1 == some .local || fd.scope.names.lookup y.1 == some .cell) = true)
    (hco : fd.scope.isCoroutine = false) (hgen : fd.scope.isGenerator = false) (hk : fd.scope.kind = .function)
    (h : ∀ h₁ tk', FS g0 hp T hp.objs.size h₁ (bindL (callEnvC fd hp.objs.size f).kindOf binds fun _ => none) [] →
      (∀ x c, (cellsFrom (hp.objs.size + 1) fd.scope.names []).lookup x = some c → h₁.IsCell c (bindC (callEnvC fd hp.objs.size f).kindOf binds (fun _ => none) x)) →
      Rm (A.deeper (callEnvC fd hp.objs.size f)) n → (∀ b ob, hp.get? b = some ob → h₁.get? b = some ob) →
      wpAny (model PP w) (A.deeper (callEnvC fd hp.objs.size f)) (execs body (callEnvC fd hp.objs.size f))
        (RetP R) (fun _ _ => False) ⟨h₁, gn, dr, tk', os⟩) :
    codeAny (model PP w) A (.call (.ref f) ⟨args, []⟩) R ⟨hp, gn, dr, tk, os⟩ := enterC (T := T) G k rm ho hd hcd hb hbind hclo hkind' hco hgen hk h
theorem rFn {name qual : Str} {params : Arguments} {body : List Stmt} {scope : Scope} {firstLine : Nat} {clos : List (Str × Addr)} {c P : Addr}
    (G : Gd w mg mb g0) (k : OK g0 hp) (hP : (P = tI2D ∧ (pos.line : Int) = pI2D ∧ qual = qI2D) ∨ (P = tD2I ∧ (pos.line : Int) = pD2I ∧ qual = qD2I) ∨ (P = tLL ∧ (pos.line : Int) = pLL ∧ qual = qLL)) (hcol : pos.col = 4)
    (C : CodeHd g0 c P) (hc : c ∉ tabs) (hcode : env.code = .ref c) (hcl : closureFor scope env = pure clos) (hge0 : env.globals = mainGlobals)
    (h : ∀ f doc pm c₁ ctv h' tk, OK g0 h' → Kp [] hp h' → hp.objs.size ≤ f → c₁ ∉ tabs → h'.CodeRec (.ref c₁) qual →
      h'.get? f = some { cls := .type "function", data := .func (fnX name qual params body scope clos .none .none doc pm none (.ref c₁) ctv) } → Q (.ref f) ⟨h', gn, dr, tk, os⟩) :
    wpAny (model PP w) A (makeFunction name qual params (.stmts body) scope env [] [] [] pos firstLine) Q E ⟨hp, gn, dr, tk, os⟩ := mkFn G k hP hcol C hc hcode hcl hge0 h
theorem rSC {Q : Unit → Shared → Prop} (F : FS g0 g T L hp m nw) {c : Addr} (i : Nat) {o : Obj} {v₀ : Option Value} (hc : env.cells.lookup x = some c) (hi : nw[i]? = some (c, o)) (hd : o.data = .cell v₀)
    (h : ∀ h' o', o'.data = .cell (some v) → Heap.SameBut c hp h' → FS g0 g T L h' m (nw.set i (c, o')) → Q () ⟨h', gn, dr, tk, os⟩)
    (hk : env.scope.kind = .function := by rfl) (hx : env.kindOf x = some .cell := by rfl) : wpAny (model PP w) A (storeName env x v) Q E ⟨hp, gn, dr, tk, os⟩ := sC F i hc hi hd h hk hx
theorem rDef {name : Str} {params : Arguments} {body rest : List Stmt} {scope : Scope} {Q : Flow → Shared → Prop} (hd0 : params.defaults = []) (hk0 : params.kw_defaults = []) (ha : annTrees params none env = [])
    (h : wpAny (model PP w) A (makeFunction name (qualnameIn env name name) params (.stmts body) scope env [] [] [] pos pos.line) (fun v s' => wpAny (model PP w) A (storeName env name v) (fun _ s'' => wpAny (model PP w) A (execs rest env) Q E s'') E s') E ⟨hp, gn, dr, tk, os⟩) :
    wpAny (model PP w) A (execs (.FunctionDef name params body [] none [] scope none name pos :: rest) env) Q E ⟨hp, gn, dr, tk, os⟩ := wpAny_execs_cons (nestDef_K hd0 hk0 ha h)
end
end Mine

namespace Mine
def digs (n : Nat) : Nat → Nat → List Int
  | 0, _ => []
  | k + 1, x => ((x % 2 ^ n : Nat) : Int) :: digs n k (x / 2 ^ n)
theorem digs_len (n : Nat) : ∀ k x, (digs n k x).length = k
  | 0, _ => rfl
  | k + 1, x => by rw [digs, List.length_cons, digs_len]
theorem digs_add (n : Nat) : ∀ a b x, digs n (a + b) x = digs n a (x % 2 ^ (n * a)) ++ digs n b (x / 2 ^ (n * a))
  | 0, b, x => by simp [digs]
  | a + 1, b, x => by
    have e : a + 1 + b = (a + b) + 1 := by omega
    rw [e, digs, digs, List.cons_append, digs_add n a b (x / 2 ^ n)]
    have e1 : x % 2 ^ (n * (a + 1)) % 2 ^ n = x % 2 ^ n := Nat.mod_mod_of_dvd _ (Nat.pow_dvd_pow 2 (by rw [Nat.mul_add]; (clear e; omega)))
    have e2 : x % 2 ^ (n * (a + 1)) / 2 ^ n = x / 2 ^ n % 2 ^ (n * a) := by
      have : 2 ^ (n * (a + 1)) = 2 ^ n * 2 ^ (n * a) := by rw [← Nat.pow_add]; congr 1; rw [Nat.mul_add]; (clear e e1; omega)
      rw [this, Nat.mod_mul_right_div_self]
    have e3 : x / 2 ^ n / 2 ^ (n * a) = x / 2 ^ (n * (a + 1)) := by
      rw [Nat.div_div_eq_div_mul, ← Nat.pow_add]
      congr 2
      rw [Nat.mul_add]; (clear e e1 e2; omega)
    rw [e1, e2, e3]
theorem low_xor (x s : Nat) : Builtin.bitXor (x : Int) ((x / 2 ^ s * 2 ^ s : Nat) : Int) = ((x % 2 ^ s : Nat) : Int) := by
  have key : Builtin.bitAnd (x : Int) ((x / 2 ^ s * 2 ^ s : Nat) : Int) = ((x / 2 ^ s * 2 ^ s : Nat) : Int) := by
    show (((x &&& (x / 2 ^ s * 2 ^ s) : Nat)) : Int) = _
    congr 1
    rw [← Nat.shiftRight_eq_div_pow, ← Nat.shiftLeft_eq]
    apply Nat.eq_of_testBit_eq
    intro i
    rw [Nat.testBit_and, Nat.testBit_shiftLeft, Nat.testBit_shiftRight]
    by_cases h : s ≤ i
    · have : s + (i - s) = i := by omega
      simp [h, this]
    · simp [h]
  rw [bitXor_and, key]
  have := Nat.mod_add_div x (2 ^ s)
  rw [Nat.mul_comm] at this
  (clear key; omega)
theorem IntsAre.set' {vs : List Value} {es : List Int} (hi : IntsAre vs es) (i : Nat) (x : Int) (t : Tok) : IntsAre (vs.set i (.int x t)) (es.set i x) := by
  induction hi generalizing i with
  | nil => exact .nil
  | cons n u _ ih =>
    cases i with
    | zero => exact .cons x t (by assumption)
    | succ i => exact .cons n u (ih i)
theorem ints_rep (t : Tok) : ∀ c, IntsAre (List.replicate c (Value.int 0 t)) (List.replicate c 0)
  | 0 => .nil
  | c + 1 => .cons 0 t (ints_rep t c)
theorem take_set_drop (es : List Int) {i : Nat} (h : i < es.length) (x : Int) : es.set i x = es.take i ++ [x] ++ es.drop (i + 1) := by
  rw [List.set_eq_take_append_cons_drop, if_pos h, List.append_assoc]; rfl
end Mine
namespace Mine
section
variable {α : Type} {es xs : List α} {Lo mid Hi c j : Nat}
theorem len_tx (h1 : Lo ≤ mid) (h2 : mid ≤ c) (he : es.length = c) (hx : xs.length = mid - Lo) : (es.take Lo ++ xs).length = mid := by
  rw [List.length_append, List.length_take, he, hx, Nat.min_eq_left (Nat.le_trans h1 h2)]
  exact Nat.add_sub_cancel' h1
theorem len_txd (h1 : Lo ≤ mid) (h2 : mid ≤ c) (he : es.length = c) (hx : xs.length = mid - Lo) : (es.take Lo ++ xs ++ es.drop mid).length = c := by
  rw [List.length_append, len_tx h1 h2 he hx, List.length_drop, he]
  exact Nat.add_sub_cancel' h2
theorem len_dt (h2 : mid ≤ Hi) (h3 : Hi ≤ c) (he : es.length = c) : ((es.drop mid).take (Hi - mid)).length = Hi - mid := by
  rw [List.length_take, List.length_drop, he, Nat.min_eq_left (Nat.sub_le_sub_right h3 _)]
theorem lt63 {Lo L : Nat} (h : Lo < L) (hL : L ≤ 1000) : (Lo : Int) < 2 ^ 63 := by omega
theorem sub3 (h1 : Lo ≤ mid) (h2 : mid ≤ Hi) : Hi - Lo = (mid - Lo) + (Hi - mid) := by omega
theorem subA (h1 : Hi - Lo ≤ j + 1) (m2 : mid < Hi) (m1 : Lo < mid) : mid - Lo ≤ j := by omega
theorem subB (h1 : Hi - Lo ≤ j + 1) (m1 : Lo < mid) (m2 : mid < Hi) : Hi - mid ≤ j := by omega
end
end Mine

namespace Mine
section
variable {w : World} {A : Around} {E : Value → Shared → Prop} {Q : Value → Shared → Prop} {t u : Tok} {hp : Heap} {gn : Array GenState} {dr : Drawn} {tk : Nat} {os : OsState}
  {g0 g h h' : Heap} {T : List Addr} {L : Addr} {m : Str → Option Value} {nw : List (Addr × Obj)} {mg mb : Str → Option Value} {env : Env} {x : Str} {pos : Pos} {v : Value} {k : Nat}
theorem FS.addT (F : FS g0 g T L h m nw) {a : Addr} {o : Obj} (e : h.get? a = some o) (ha : a ∈ T) (h0 : g0.objs.size ≤ a) (hf : ∀ p ∈ nw, @Ne Nat p.1 a) (hL : @Ne Nat a L) : FS g0 g T L h m ((a, o) :: nw) where
  ok := F.ok
  kp := F.kp
  g0g := F.g0g
  ns := F.ns
  le := F.le
  nws := fun p hp => by
    rcases List.mem_cons.mp hp with rfl | hp
    · exact e
    · exact F.nws p hp
  lo := fun p hp => by
    rcases List.mem_cons.mp hp with rfl | hp
    · exact .inr ⟨ha, h0⟩
    · exact F.lo p hp
  nd := by
    rw [List.map_cons]
    refine List.nodup_cons.mpr ⟨fun hm => ?_, F.nd⟩
    obtain ⟨p, hp, hpa⟩ := List.mem_map.mp hm
    exact hf p hp hpa
  nL := fun p hp => by
    rcases List.mem_cons.mp hp with rfl | hp
    · exact hL
    · exact F.nL p hp
theorem list_nc {o : Obj} {xs : Array Value} {n : Nat} (hd : o.data = .seq xs n) : NC o := fun vs q t z => by rw [hd] at z; cases z
theorem cell_nc {o : Obj} {c : Option Value} (hd : o.data = .cell c) : NC o := fun vs q t z => by rw [hd] at z; cases z
theorem rMulL {l : Addr} {items : Array Value} {n : Nat} {x : Int} (hl : hp.get? l = some { cls := .type "list", dict := none, data := .seq items n, slots := #[] })
    (h0 : 0 ≤ x) (hhi : x < 2 ^ 63) (hsz : items.size * x.toNat ≤ 2 ^ 24)
    (h : Q (.ref hp.objs.size) ⟨hp.push { cls := .type "list", data := .seq (List.foldl (fun x1 x2 => x1 ++ x2) #[] (List.replicate (if items.isEmpty = true then 0 else x.toNat) items)) }, gn, dr, tk, os⟩) :
    wpAny (model PP w) A (binaryOp .Mult (.ref l) (.int x u)) Q E ⟨hp, gn, dr, tk, os⟩ :=
  wpAny_binaryOp_repeat_ref (T := "list") (U := "int") (by decide) ⟨_, hl, rfl⟩ (fun s' => typeIs_int s' x u) noFill_list_mul F.fills_int_mul F.slot_int_rmul repeat_list F.slot_int_index.lookup
    (call_meets F.slot_int_rmul (typeIs_int _ x u) F.entry_int_rmul (F.args_int_rmul_2 _ _) (int___rmul___int_list x u l items n)
      ⟨hl, rfl, ⟨_, hl, rfl⟩, call_meets F.slot_list_mul ⟨_, hl, rfl⟩ F.entry_list_mul (F.args_list_mul_2 _ _)
        (AutoListH.list___mul___list_int_3 l items n x u (by simp [Builtin.List.listFitsIndex]; (clear hsz; omega)) (by (clear h0 hhi; omega)) (by simp [Builtin.List.listTooLong, sizeLine]; (clear h0 hhi; omega)))
        ⟨hl, h⟩⟩)
theorem rep_fold (v : Value) : ∀ (c : Nat) (acc : Array Value), List.foldl (fun x1 x2 => x1 ++ x2) acc (List.replicate c #[v]) = acc ++ (List.replicate c v).toArray
  | 0, acc => by simp
  | c + 1, acc => by
    rw [List.replicate_succ, List.foldl_cons, rep_fold v c, List.replicate_succ, Array.append_assoc]
    congr 1
    apply Array.ext'
    simp
theorem rMulL1 {l : Addr} {v : Value} {n : Nat} (c : Nat) (hl : hp.get? l = some { cls := .type "list", dict := none, data := .seq #[v] n, slots := #[] })
    (hsz : c ≤ 2 ^ 24) (h : Q (.ref hp.objs.size) ⟨hp.push { cls := .type "list", data := .seq (List.replicate c v).toArray }, gn, dr, tk, os⟩) :
    wpAny (model PP w) A (binaryOp .Mult (.ref l) (.int (c : Int) u)) Q E ⟨hp, gn, dr, tk, os⟩ := by
  refine rMulL hl (by omega) (by omega) (by show 1 * (c : Int).toNat ≤ _; rw [Int.toNat_natCast]; omega) ?_
  have e : List.foldl (fun x1 x2 => x1 ++ x2) #[] (List.replicate (if (#[v] : Array Value).isEmpty = true then 0 else (c : Int).toNat) #[v]) = (List.replicate c v).toArray := by
    rw [if_neg (by simp), Int.toNat_natCast, rep_fold]
    simp
  rw [e]
  exact h
theorem rFdiv {a b : Int} (c : Int) (e : a.fdiv b = c) (hb : b ≠ 0) (hp' : b.natAbs.log2 < 9000) (h : Q (.int c tk) ⟨hp, gn, dr, tk + 1, os⟩) : wpAny (model PP w) A (binaryOp .FloorDiv (.int a t) (.int b u)) Q E ⟨hp, gn, dr, tk, os⟩ :=
  floordiv_int hb (by rw [e]; exact h) (.inl (PyProof.noPylong_of_log2 hp'))
theorem rXor {a b : Int} (c : Int) (e : Builtin.bitXor a b = c) (h : Q (.int c tk) ⟨hp, gn, dr, tk + 1, os⟩) : wpAny (model PP w) A (binaryOp .BitXor (.int a t) (.int b u)) Q E ⟨hp, gn, dr, tk, os⟩ := xor_int (by rw [e]; exact h)
theorem rList {elts : List Expr} (h : wpAny (model PP w) A (spliced (backTo pos (starEach elts env))) (fun vs s₁ => wpAny (model PP w) A (newList vs) Q E s₁) E ⟨hp, gn, dr, tk, os⟩) : wpAny (model PP w) A (eval (.List elts pos) env) Q E ⟨hp, gn, dr, tk, os⟩ := List_ h
theorem rNewL {items : List Value} (h : Q (.ref hp.objs.size) ⟨hp.push { cls := .type "list", data := .seq items.toArray }, gn, dr, tk, os⟩) (hs : items.length ≤ sizeLine) : wpAny (model PP w) A (newList items) Q E ⟨hp, gn, dr, tk, os⟩ := wpAny_newList h hs
theorem rNewT {items : List Value} (h : Q (.ref hp.objs.size) ⟨hp.push { cls := .type "tuple", data := .seq items.toArray }, gn, dr, tk, os⟩) (hs : items.length ≤ sizeLine) : wpAny (model PP w) A (newTuple items) Q E ⟨hp, gn, dr, tk, os⟩ := wpAny_newTuple h hs
theorem rEx {e : Expr} {rest : List Stmt} {Q : Flow → Shared → Prop} (h : wpAny (model PP w) A (eval e env) (fun _ s' => wpAny (model PP w) A (execs rest env) Q E s') E ⟨hp, gn, dr, tk, os⟩) (hi : interactive env = false := by rfl) (hs : swapsWith e none pos.line env = pure false := by rfl) :
    wpAny (model PP w) A (execs (.Expr e pos :: rest) env) Q E ⟨hp, gn, dr, tk, os⟩ := wpAny_execs_cons (wpAny_Expr_any h hi hs)
theorem rAsub {o i : Expr} {pos' : Pos} {value : Expr} {rest : List Stmt} {Q : Flow → Shared → Prop}
    (h : wpAny (model PP w) A (eval value env) (fun v s₁ => wpAny (model PP w) A (eval o env) (fun ov s₂ => wpAny (model PP w) A (eval i env) (fun iv s₃ => wpAny (model PP w) A (setItem ov iv v) (fun _ s₄ => wpAny (model PP w) A (execs rest env) Q E s₄) E s₃) E s₂) E s₁) E ⟨hp, gn, dr, tk, os⟩)
    (hs : swapsWith value (some (o.Subscript i pos')) pos.line env = pure false := by rfl) : wpAny (model PP w) A (execs (.Assign [.Subscript o i pos'] value pos :: rest) env) Q E ⟨hp, gn, dr, tk, os⟩ := wpAny_execs_cons (wpAny_Assign_Subscript h hs)
theorem rRet0 {rest : List Stmt} {Q : Flow → Shared → Prop} (h : Q (.ret .none) ⟨hp, gn, dr, tk, os⟩) : wpAny (model PP w) A (execs (.Return none pos :: rest) env) Q E ⟨hp, gn, dr, tk, os⟩ := wpAny_execs_cons (wpAny_Return_none h)
theorem rNil {Q : Flow → Shared → Prop} (h : Q .next ⟨hp, gn, dr, tk, os⟩) : wpAny (model PP w) A (execs [] env) Q E ⟨hp, gn, dr, tk, os⟩ := wpAny_execs_nil h
theorem rM {o : Expr} {name : Str} {apos : Pos} {args : List Expr} {pl : Sem Bool}
    (h : wpAny (model PP w) A (eval o env) (fun ov s₁ => wpAny (model PP w) A (getMethod ov name pl) (fun fx s₂ => wpAny (model PP w) A (callWith pos fx.1 fx.2 (backTo pos (starEach args env)) []) Q E s₂) E s₁) E ⟨hp, gn, dr, tk, os⟩)
    (he : eval (.Call (.Attribute o name apos) args [] pos) env = (do
          let ov ← eval o env
          standAt apos.atName
          let (f, first) ← holding [ov] (getMethod ov name pl)
          callWith pos f first (backTo pos (starEach args env)) []) := by rfl) :
    wpAny (model PP w) A (eval (.Call (.Attribute o name apos) args [] pos) env) Q E ⟨hp, gn, dr, tk, os⟩ := MethodCall_ h he
theorem rBL {a : Int} {pl : Sem Bool} {QM : Value × List Value → Shared → Prop} (h : QM (.builtin "int.bit_length", [.int a t]) ⟨hp, gn, dr, tk, os⟩) : wpAny (model PP w) A (getMethod (.int a t) "bit_length" pl) QM E ⟨hp, gn, dr, tk, os⟩ := getMethod_int_bit_length h
theorem rCM0 {id : String} {first : List Value} (h : wpAny (model PP w) A (call (.builtin id) first) Q E ⟨hp, gn, dr, tk, os⟩) : wpAny (model PP w) A (callWith pos (.builtin id) first (backTo pos (starEach [] env)) []) Q E ⟨hp, gn, dr, tk, os⟩ := callWith_method0 h
theorem rBL' {a : Int} (h : Q (.int (Builtin.Int.intBits a : Nat) tk) ⟨hp, gn, dr, tk + 1, os⟩) : wpAny (model PP w) A (call (.builtin "int.bit_length") [.int a t]) Q E ⟨hp, gn, dr, tk, os⟩ := call_int_bit_length h
theorem rTru {a : Int} {Q : Bool → Shared → Prop} (h : Q (a != 0) ⟨hp, gn, dr, tk, os⟩) : wpAny (model PP w) A (truthy (.int a t)) Q E ⟨hp, gn, dr, tk, os⟩ := truthy_int h
theorem rLen {l : Addr} {items : Array Value} {n : Nat} (hl : hp.IsList l items) (hn : items.size = n) (hs : n < 2 ^ 62) (h : ∀ tk' tk2, Q (.int (n : Nat) tk') ⟨hp, gn, dr, tk2, os⟩) : wpAny (model PP w) A (call (.builtin "len") [.ref l]) Q E ⟨hp, gn, dr, tk, os⟩ :=
  len_list hl (by rw [hn]; omega) (by subst hn; exact h _ _)
theorem FS.extX (F : FS g0 g T L h m nw) (k : ∀ b o, h.get? b = some o → h'.get? b = some o) : FS g0 g T L h' m nw := by
  have sL : L < h'.objs.size := ns_lt (F.ns.keeps k)
  have sz : g.objs.size ≤ h'.objs.size := Nat.le_of_lt (Nat.lt_of_le_of_lt F.le sL)
  refine ⟨⟨Nat.le_trans F.g0g sz, fun b o e q => k _ _ (F.ok.kp b o e q), F.ok.lt, ?_, ?_, ?_⟩, ⟨sz, fun b o e h1 h2 => k _ _ (F.kp.kp b o e h1 h2)⟩, F.g0g, F.ns.keeps k, F.le, fun p hp => k _ _ (F.nws p hp), F.lo, F.nd, F.nL⟩
  · exact F.ok.t1.keeps (fun o e => k _ _ e) (fun c o _ e => k _ _ e)
  · exact F.ok.t2.keeps (fun o e => k _ _ e) (fun c o _ e => k _ _ e)
  · exact F.ok.t3.keeps (fun o e => k _ _ e) (fun c o _ e => k _ _ e)
theorem FS.extN (F : FS g0 g T L h m nw) (k : Heap.ExtBut h.objs.size h h') : FS g0 g T L h' m nw := F.extX fun b o e => k b o (Nat.ne_of_lt (Heap.lt_size e)) e
theorem FS.set' (F : FS g0 g T L h m nw) (i : Nat) {a : Addr} {o o' : Obj} (hi : nw[i]? = some (a, o)) (hn : NC o) {f : Obj → Obj} (hf : f o = o') (hfr : o'.isFreed = false) : FS g0 g T L (h.update a f) m (nw.set i (a, o')) :=
  F.updS i hi hn (Heap.SameBut.update ..) (by have := Heap.get?_update_self f (F.at i hi) (by rw [hf]; exact hfr); rw [this, hf])
abbrev LO (vs : List Value) (n : Nat) : Obj := { cls := .type "list", data := .seq vs.toArray n }
theorem LO.is {l : Addr} {vs : List Value} {n : Nat} (e : h.get? l = some (LO vs n)) : h.IsList l vs.toArray := ⟨_, e, rfl, n, rfl⟩
theorem rAppend (F : FS g0 g T L hp m nw) (i : Nat) {l : Addr} {vs : List Value} {n : Nat} {x : Value} (hi : nw[i]? = some (l, LO vs n)) (hs : vs.length ≤ 2 ^ 20)
    (h : ∀ h', FS g0 g T L h' m (nw.set i (l, LO (vs ++ [x]) (n + 1))) → Q .none ⟨h', gn, dr, tk, os⟩) : wpAny (model PP w) A (call (.builtin "list.append") [.ref l, x]) Q E ⟨hp, gn, dr, tk, os⟩ := by
  refine call_meets PySem.slot_list_append ⟨_, F.at i hi, rfl⟩ PySem.entry_list_append (PySem.args_list_append _ _) (AutoListH.list_append_list_val_0 l vs.toArray n x (by simp [sizeLine]; omega)) ⟨F.at i hi, h _ (F.set' i hi (list_nc rfl) ?_ rfl)⟩
  simp [Obj.mapSeq]
theorem rReverse (F : FS g0 g T L hp m nw) (i : Nat) {l : Addr} {vs : List Value} {n : Nat} (hi : nw[i]? = some (l, LO vs n)) (hs : vs.length ≤ 2 ^ 20)
    (h : ∀ h', FS g0 g T L h' m (nw.set i (l, LO vs.reverse n)) → Q .none ⟨h', gn, dr, tk, os⟩) : wpAny (model PP w) A (call (.builtin "list.reverse") [.ref l]) Q E ⟨hp, gn, dr, tk, os⟩ := by
  refine call_meets PySem.F.slot_list_reverse ⟨_, F.at i hi, rfl⟩ PySem.F.entry_list_reverse (PySem.F.args_list_reverse_1 _) (PySem.AutoSeq1.list_reverse_list_0 l vs.toArray n (by simp [sizeLine]; omega)) ⟨F.at i hi, h _ (F.set' i hi (list_nc rfl) ?_ rfl)⟩
  simp [Obj.mapSeq]
theorem rAppM {l : Addr} {vs : List Value} {n : Nat} {pl : Sem Bool} {QM : Value × List Value → Shared → Prop} (e : hp.get? l = some (LO vs n)) (h : QM (.builtin "list.append", [.ref l]) ⟨hp, gn, dr, tk, os⟩) : wpAny (model PP w) A (getMethod (.ref l) "append" pl) QM E ⟨hp, gn, dr, tk, os⟩ :=
  getMethod_list_append e rfl rfl h
theorem rRevM {l : Addr} {vs : List Value} {n : Nat} {pl : Sem Bool} {QM : Value × List Value → Shared → Prop} (e : hp.get? l = some (LO vs n)) (h : QM (.builtin "list.reverse", [.ref l]) ⟨hp, gn, dr, tk, os⟩) : wpAny (model PP w) A (getMethod (.ref l) "reverse" pl) QM E ⟨hp, gn, dr, tk, os⟩ :=
  getMethod_builtin (T := "list") ⟨_, e, rfl⟩ PySem.F.plainAttrs_list PySem.F.slot_list_reverse PySem.F.type_list_reverse (fun a e' => by cases e'; exact ⟨_, e, rfl⟩) h
theorem rCM {id : String} {first : List Value} {e : Expr} {rest : List Expr} (h : wpAny (model PP w) A (spliced (backTo pos (starEach (e :: rest) env))) (fun vs s₁ => wpAny (model PP w) A (call (.builtin id) (first ++ vs)) Q E s₁) E ⟨hp, gn, dr, tk, os⟩)
    (he : starEach (e :: rest) env = (false, eval e env) :: starEach rest env := by rfl) (hr : ((backTo pos (starEach rest env)).any fun x => x.1) = false := by rfl) :
    wpAny (model PP w) A (callWith pos (.builtin id) first (backTo pos (starEach (e :: rest) env)) []) Q E ⟨hp, gn, dr, tk, os⟩ := callWith_method1 h he hr
theorem rCB {id : String} {e : Expr} {rest : List Expr} (h : wpAny (model PP w) A (spliced (backTo pos (starEach (e :: rest) env))) (fun vs s₁ => wpAny (model PP w) A (call (.builtin id) vs) Q E s₁) E ⟨hp, gn, dr, tk, os⟩)
    (he : starEach (e :: rest) env = (false, eval e env) :: starEach rest env := by rfl) (hr : ((backTo pos (starEach rest env)).any fun x => x.1) = false := by rfl) :
    wpAny (model PP w) A (callWith pos (.builtin id) [] (backTo pos (starEach (e :: rest) env)) []) Q E ⟨hp, gn, dr, tk, os⟩ := PyProof.Rows.callWith_builtin1 h he hr
theorem rAs2 {x y : Str} {px py pt : Pos} {k : Nat} {value : Expr} {rest : List Stmt} {Q : Flow → Shared → Prop}
    (h : wpAny (model PP w) A (eval value env) (fun v s₁ => wpAny (model PP w) A (assign (.Tuple [.Name x px, .Name y py] k pt) env v) (fun _ s₂ => wpAny (model PP w) A (execs rest env) Q E s₂) E s₁) E ⟨hp, gn, dr, tk, os⟩)
    (h1 : swapsWithSole [.Tuple [.Name x px, .Name y py] k pt] value pos.line env = pure false := by rfl) (h2 : swappedStores [.Tuple [.Name x px, .Name y py] k pt] value env = pure none := by rfl) :
    wpAny (model PP w) A (execs (.Assign [.Tuple [.Name x px, .Name y py] k pt] value pos :: rest) env) Q E ⟨hp, gn, dr, tk, os⟩ := wpAny_execs_cons (Assign_Tuple h h1 h2)
theorem rTup2 {x y : Str} {px py pt : Pos} {k : Nat} {t : Addr} {a b : Value} {Q : Unit → Shared → Prop} (F : FS g0 g T L hp m nw) (hA : A.handled = none) (ht : hp.IsTuple t #[a, b])
    (h : ∀ h', FS g0 g T L h' (fun z => if z = y then some b else if z = x then some a else m z) nw → Q () ⟨h', gn, dr, tk + 1 + 1, os⟩)
    (hL : env.locals = L := by rfl) (hk : env.scope.kind = .function := by rfl) (hx : env.kindOf x = some .local := by rfl) (hy : env.kindOf y = some .local := by rfl) :
    wpAny (model PP w) A (assign (.Tuple [.Name x px, .Name y py] k pt) env (.ref t)) Q E ⟨hp, gn, dr, tk, os⟩ := by
  refine wpAny_assign_Tuple hA ht rfl rfl fun h' hx' => ?_
  have F1 := F.extN hx'
  refine wpAny_assignInOrder_more (wpAny_assign_Name ?_)
  refine rSt F1 (fun h2 F2 => ?_) hL hk hx
  refine wpAny_assignInOrder_more (wpAny_assign_Name ?_)
  refine rSt F2 (fun h3 F3 => ?_) hL hk hy
  exact wpAny_assignInOrder_none (h h3 F3)
theorem fdivN (a b : Nat) : ((a : Nat) : Int).fdiv (b : Int) = ((a / b : Nat) : Int) := by
  rw [Int.fdiv_eq_ediv_of_nonneg _ (by omega)]; rfl
theorem fdivP (a s : Nat) : ((a : Nat) : Int).fdiv (2 ^ s) = ((a / 2 ^ s : Nat) : Int) := by
  have : ((2 : Int) ^ s) = ((2 ^ s : Nat) : Int) := by simp
  rw [this, fdivN]
theorem log2_le {b k : Nat} (h : b < 2 ^ k) (hk : k < 9000) : b.log2 < 9000 := by
  by_cases z : b = 0
  · subst z; decide
  · exact Nat.lt_trans ((Nat.log2_lt z).mpr h) hk
end
end Mine

namespace Mine
section
variable {w : World} {A : Around} {E : Value → Shared → Prop} {Q : Value → Shared → Prop} {t u : Tok} {hp : Heap} {gn : Array GenState} {dr : Drawn} {tk : Nat} {os : OsState}
  {g0 g h h' : Heap} {T : List Addr} {L : Addr} {m : Str → Option Value} {nw : List (Addr × Obj)} {mg mb : Str → Option Value} {env : Env} {x : Str} {pos : Pos} {v : Value} {k : Nat}
theorem rForL {target iter : Expr} {body rest : List Stmt} {Q : Flow → Shared → Prop}
    (h : wpAny (model PP w) A (eval iter env) (fun v s₁ => wpAny (model PP w) A (pyIter v) (fun it s₂ => codeAny (model PP w) A (.forLoop target it body [] env)
      (fun r s' => match r with | .ok f => (match f with | .next => wpAny (model PP w) A (execs rest env) Q E s' | f => Q f s') | .error e => cameBackBy (model PP w) A env E e s') s₂) E s₁) E ⟨hp, gn, dr, tk, os⟩)
    (hf : ∀ x : Value, foldedSetIterable iter env x = pure x := by intro x; rfl) :
    wpAny (model PP w) A (execs (.For target iter body [] pos :: rest) env) Q E ⟨hp, gn, dr, tk, os⟩ := wpAny_execs_cons (wpAny_For h hf)
theorem rLoop {it : Value} {x : Str} {px : Pos} {body : List Stmt} {Qf : Flow → Shared → Prop} {Er : Value → Shared → Prop} (I : Nat → Shared → Prop)
    (turn : ∀ J : Nat → Shared → Prop, (∀ n s, I n s → J n s) → ∀ n s, I n s → wpAny (model PP w) A (pyNext it) (fun r s₁ => match r with
      | none => Qf .next s₁
      | some v => wpAny (model PP w) A (storeName env x v) (fun _ s₂ => wpAny (model PP w) A (execs body env) (fun f s₃ => match f with
          | .next => ∃ m, m < n ∧ J m s₃
          | .cont => ∃ m, m < n ∧ J m s₃
          | .brk => Qf .next s₃
          | .ret v => Qf (.ret v) s₃) (fun _ _ => False) s₂) (fun _ _ => False) s₁) (fun _ _ => False) s)
    (n : Nat) {s : Shared} (h : I n s) :
    codeAny (model PP w) A (.forLoop (.Name x px) it body [] env) (fun r s' => match r with | .ok f => Qf f s' | .error e => Er e s') s := by
  refine codeAny_forLoop I (fun n s hI => ?_) n h (fun v => rfl)
  refine wpAny_mono (turn I (fun _ _ x => x) n s hI) (fun r s₁ hr => ?_) (fun _ _ q => q.elim)
  cases r with
  | none => exact wpAny_execs_nil hr
  | some v =>
    refine wpAny_assign_Name (wpAny_mono hr (fun _ s₂ h₂ => ?_) (fun _ _ q => q.elim))
    refine wpAny_mono h₂ (fun f s₃ h₃ => ?_) (fun _ _ q => q.elim)
    cases f <;> exact h₃
theorem rWhile {test : Expr} {body rest : List Stmt} {Q : Flow → Shared → Prop} (I : Nat → Shared → Prop)
    (turn : ∀ J : Nat → Shared → Prop, (∀ n s, I n s → J n s) → ∀ n s, I n s → wpAny (model PP w) A (isTrue test env (eval test env)) (fun b s₂ => if b = true then wpAny (model PP w) A (execs body env) (fun f s₃ => match f with
          | .next => ∃ m, m < n ∧ J m s₃
          | .cont => ∃ m, m < n ∧ J m s₃
          | .brk => wpAny (model PP w) A (execs rest env) Q E s₃
          | .ret v => Q (.ret v) s₃) (fun _ _ => False) s₂
        else wpAny (model PP w) A (execs rest env) Q E s₂) (fun _ _ => False) s)
    (n : Nat) (h : I n ⟨hp, gn, dr, tk, os⟩) :
    wpAny (model PP w) A (execs (.While test body [] pos :: rest) env) Q E ⟨hp, gn, dr, tk, os⟩ := by
  refine wpAny_execs_cons (wpAny_While (codeAny_whileLoop I (fun n s hI => ?_) n h))
  refine wpAny_mono (turn I (fun _ _ x => x) n s hI) (fun b s₂ hb => ?_) (fun _ _ q => q.elim)
  cases b with
  | true =>
    rw [if_pos rfl] at hb ⊢
    refine wpAny_mono hb (fun f s₃ h₃ => ?_) (fun _ _ q => q.elim)
    cases f <;> exact h₃
  | false =>
    rw [if_neg (by decide)] at hb ⊢
    exact wpAny_execs_nil hb
theorem FS.dropX {a : Addr} {o : Obj} (F : FS g0 g T L h m ((a, o) :: nw)) (hn : NC o) (kx : Heap.ExtBut a h h') : FS g0 g T L h' m nw := by
  have hm : (a, o) ∈ (a, o) :: nw := .head _
  have nL := F.nL _ hm
  have k : ∀ b ob, b ≠ a → h.get? b = some ob → h'.get? b = some ob := fun b ob hb e => kx b ob hb e
  have ns' : h'.Ns L m := by
    obtain ⟨oL, es, ep, eL, r⟩ := F.ns
    exact ⟨oL, es, ep, k _ _ (Ne.symm nL) eL, r⟩
  have sz : g.objs.size ≤ h'.objs.size := Nat.le_of_lt (Nat.lt_of_le_of_lt F.le (ns_lt ns'))
  have ha0 := F.lo0 hm
  have ht : ∀ t ∈ tabs, t ≠ a := fun t q => Nat.ne_of_lt (Nat.lt_of_lt_of_le (F.ok.lt t q) ha0)
  have hc : ∀ (q : Str), q ≠ "" → ∀ (c : Addr) ob, h.CodeRec (.ref c) q → h.get? c = some ob → h'.get? c = some ob := fun q hq c ob C e =>
    k c ob (CodeRec.ne hq C (F.nws _ hm) hn) e
  refine ⟨⟨Nat.le_trans F.g0g sz, fun b ob e q => k b ob (Nat.ne_of_lt (Nat.lt_of_lt_of_le (Heap.lt_size e) ha0)) (F.ok.kp b ob e q), F.ok.lt, ?_, ?_, ?_⟩, ⟨sz, fun b ob e h1 h2 => k b ob (fun z => ?_) (F.kp.kp b ob e h1 h2)⟩, F.g0g, ns', F.le, fun p hp => k _ _ (fun z => ?_) (F.nws p (.tail _ hp)), fun p hp => F.lo p (.tail _ hp), (List.nodup_cons.mp F.nd).2, fun p hp => F.nL p (.tail _ hp)⟩
  · exact F.ok.t1.keeps (fun ob e => k _ _ (ht _ (by decide)) e) (hc _ (by decide))
  · exact F.ok.t2.keeps (fun ob e => k _ _ (ht _ (by decide)) e) (hc _ (by decide))
  · exact F.ok.t3.keeps (fun ob e => k _ _ (ht _ (by decide)) e) (hc _ (by decide))
  · subst z
    rcases F.lo _ hm with q | q
    · exact absurd (Heap.lt_size e) (Nat.not_lt.mpr q)
    · exact h2 q.1
  · exact (List.nodup_cons.mp F.nd).1 (List.mem_map.mpr ⟨p, hp, z⟩)
theorem rev_nc {o : Obj} {l : Addr} {i : Int} (hd : o.data = .fields #[.ref l, rawInt i]) : NC o := fun vs q t z e => by
  rw [hd] at z
  cases z
  cases e
theorem rRevN {l : Addr} {xs : Array Value} (hl : hp.IsList l xs) (h : Q (.ref hp.objs.size) ⟨hp.push (revObj l ((xs.size : Int) - 1)), gn, dr, tk, os⟩) : wpAny (model PP w) A (call (.type "reversed") [.ref l]) Q E ⟨hp, gn, dr, tk, os⟩ := call_reversed_list hl h
theorem rCT {id : String} {e : Expr} (h : wpAny (model PP w) A (spliced (backTo pos (starEach [e] env))) (fun vs s₁ => wpAny (model PP w) A (call (.type id) vs) Q E s₁) E ⟨hp, gn, dr, tk, os⟩)
    (he : starEach [e] env = (false, eval e env) :: starEach [] env := by rfl) :
    wpAny (model PP w) A (callWith pos (.type id) [] (backTo pos (starEach [e] env)) []) Q E ⟨hp, gn, dr, tk, os⟩ := callWith_type1 h he
end
end Mine

namespace Mine
theorem c_d2i {w : World} {mg mb : Str → Option Value} {g0 : Heap} (G : Gd w mg mb g0) {A : Around} {R : Result → Shared → Prop} {hp : Heap} {gn : Array GenState} {dr : Drawn} {tk0 : Nat} {os : OsState} (k : OK g0 hp) {l : Addr} {vs : List Value} {ds : List Int} {n : Nat} {tk : Tok} (rm : Rm A (ds.length + 10))
  (hl : hp.IsList l vs.toArray) (hi : IntsAre vs ds) (hd : ∀ d ∈ ds, 0 ≤ d ∧ d < 2^n) (hlen : ds.length ≤ 1000) (hn: n ≤ 1000) (hlt : l ∉ tabs)
 (h : ∀ tk' h' tks, OK g0 h' → Kp [] hp h' → R (.ok (.ret (.int (dsum n ds) tk'))) ⟨h', gn, dr, tks, os⟩) : codeAny (model PP w) A (.call (.ref aD2I) ⟨[.ref l, .int n tk], []⟩) R ⟨hp, gn, dr, tk0, os⟩ := by
  refine entC (T := []) (n := ds.length + 9) (binds := [("digits", .ref l), ("n", .int n tk)]) G k rm (k.at0 G rfl) rfl (k.code G rfl) rfl rfl rfl rfl rfl rfl rfl ?_
  intro h₁ tk₁ F hc rm₁ kk
  generalize hLL : hp.objs.size = L at *
  obtain ⟨o1, e1, d1⟩ := hc "digits" (L + 1) rfl
  obtain ⟨o2, e2, d2⟩ := hc "n" (L + 2) rfl
  obtain ⟨o3, e3, d3⟩ := hc "inner" (L + 3) rfl
  have F1 := ((F.add e1 (by (clear hlen hn hlt; omega)) (by simp) (by (clear hlen hn hlt hLL; omega))).add e2 (by (clear hlen hn hlt; omega)) (by simp) (by (clear hlen hn hlt hLL; omega))).add e3 (by (clear hlen hn hlt; omega)) (by simp) (by (clear hlen hn hlt hLL; omega))
  refine rDef rfl rfl rfl ?_
  refine rFn G F1.ok (.inr (.inl ⟨rfl, rfl, rfl⟩)) rfl G.h2 (by decide) rfl rfl rfl ?_
  intro f doc pm cc ctv h₂ tk₂ k₂ K₂ hf hct hcr hfo
  have hLf : L ≤ f := Nat.le_trans (hLL ▸ F1.gsz) hf
  have F2 := (F1.call k₂ K₂).add hfo (Nat.le_trans F1.gsz hf) (F1.fresh hf).1 (F1.fresh hf).2
  refine rSC F2 1 rfl rfl d3 ?_
  intro h₃ o3' d3' S3 F3
  have hcr3 : h₃.CodeRec (.ref cc) qD2I := CodeRec.same hcr (by decide) S3 (fun o e => by rw [F2.at 1 rfl] at e; cases e; intro vs q t z; rw [d3] at z; cases z)
  have hl3 : h₃.IsList l vs.toArray := F3.kp.list hl hlt List.not_mem_nil
  have hfo3 := F3.at 0 rfl
  have hc3 : h₃.IsCell (L + 3) (some (.ref f)) := ⟨_, F3.at 1 rfl, d3'⟩
  have hc2 : h₃.IsCell (L + 2) (some (.int n tk)) := ⟨_, F3.at 2 rfl, d2⟩
  have hc1 : h₃.IsCell (L + 1) (some (.ref l)) := ⟨_, F3.at 3 rfl, d1⟩
  have nt : ∀ a : Addr, L ≤ a → a ∉ tabs := fun a ha => k.nt (Nat.le_trans k.sz (by rw [hLL]; exact ha))
  have inner : ∀ (j Lo Hi : Nat), Hi - Lo ≤ j → Lo < Hi → Hi ≤ ds.length → ∀ (A' : Around) (R' : Result → Shared → Prop) (hp' : Heap) (tk' : Nat) (t1 t2 : Tok), OK g0 hp' → Kp [] h₃ hp' → Rm A' (j + 1) →
      (∀ tk' h' tks, OK g0 h' → Kp [] hp' h' → R' (.ok (.ret (.int (dsum n ((ds.drop Lo).take (Hi - Lo))) tk'))) ⟨h', gn, dr, tks, os⟩) →
      codeAny (model PP w) A' (.call (.ref f) ⟨[.int Lo t1, .int Hi t2], []⟩) R' ⟨hp', gn, dr, tk', os⟩ := by
    intro j
    induction j with
    | zero => intro Lo Hi h1 h2; (clear hlen hn hlt hLL hf hct hLf; omega)
    | succ j ih =>
      intro Lo Hi h1 h2 h3 A' R' hp' tk' t1 t2 k' K' rm' hR
      refine ent (T := []) (n := j + 1) (binds := [("L", .int Lo t1), ("R", .int Hi t2)]) G k' rm' (K'.kp _ _ hfo3 (nt _ hLf) List.not_mem_nil) rfl (K'.codeRec hcr3 hct List.not_mem_nil) rfl rfl rfl rfl rfl rfl rfl ?_
      intro h₄ tk4 F4 rm4 kk4
      have K4 := K'.trans F4.kp
      have cn := K4.cell hc2 (nt _ (by omega)) List.not_mem_nil
      have ci := K4.cell hc3 (nt _ (by omega)) List.not_mem_nil
      have cd := K4.cell hc1 (nt _ (by omega)) List.not_mem_nil
      have hfo4 := K4.kp _ _ hfo3 (nt _ hLf) List.not_mem_nil
      repeat (first | (first | ((with_reducible show wpAny _ _ (execs (Stmt.Assign [Expr.Name _ _] _ _ :: _) _) _ _ _); refine rAs ?_) | with_reducible refine rRet ?_ | with_reducible refine rIf ?_ | with_reducible refine wpAny_BinOp ?_ | with_reducible refine rI ?_ | with_reducible refine rS ?_ | ((with_reducible show wpAny _ _ (eval (Expr.Name _ _) _) _ _ _); refine nL (by assumption) rfl ?_) | ((with_reducible show wpAny _ _ (storeName _ _ _) _ _ _); refine rSt (by assumption) ?_; intro _ _) | ((with_reducible show wpAny _ _ (isTrue (Expr.Compare _ [_] [_] _) _ _) _ _ _); refine wpAny_isTrue_Compare1 ?_) | with_reducible refine wpAny_truthy_bool ?_ | with_reducible refine rEq ?_ | ((with_reducible show wpAny _ _ (eval (Expr.Call _ _ [] _) _) _ _ _); refine Call_ ?_) | ((with_reducible show wpAny _ _ (spliced (backTo _ (starEach (_ :: _) _))) _ _ _); refine spliced_more ?_) | ((with_reducible show wpAny _ _ (spliced (backTo _ (starEach [] _))) _ _ _); refine spliced_none ?_) | with_reducible refine wpAny_IfExp ?_) | (dsimp only; first | ((with_reducible show wpAny _ _ (execs (Stmt.Assign [Expr.Name _ _] _ _ :: _) _) _ _ _); refine rAs ?_) | with_reducible refine rRet ?_ | with_reducible refine rIf ?_ | with_reducible refine wpAny_BinOp ?_ | with_reducible refine rI ?_ | with_reducible refine rS ?_ | ((with_reducible show wpAny _ _ (eval (Expr.Name _ _) _) _ _ _); refine nL (by assumption) rfl ?_) | ((with_reducible show wpAny _ _ (storeName _ _ _) _ _ _); refine rSt (by assumption) ?_; intro _ _) | ((with_reducible show wpAny _ _ (isTrue (Expr.Compare _ [_] [_] _) _ _) _ _ _); refine wpAny_isTrue_Compare1 ?_) | with_reducible refine wpAny_truthy_bool ?_ | with_reducible refine rEq ?_ | ((with_reducible show wpAny _ _ (eval (Expr.Call _ _ [] _) _) _ _ _); refine Call_ ?_) | ((with_reducible show wpAny _ _ (spliced (backTo _ (starEach (_ :: _) _))) _ _ _); refine spliced_more ?_) | ((with_reducible show wpAny _ _ (spliced (backTo _ (starEach [] _))) _ _ _); refine spliced_none ?_) | with_reducible refine wpAny_IfExp ?_))
      refine rAdd (Lo + 1 : Nat) (by (clear hlen hn hlt hLL hf hct hLf h1 h2 h3; omega)) ?_
      repeat (first | (first | ((with_reducible show wpAny _ _ (execs (Stmt.Assign [Expr.Name _ _] _ _ :: _) _) _ _ _); refine rAs ?_) | with_reducible refine rRet ?_ | with_reducible refine rIf ?_ | with_reducible refine wpAny_BinOp ?_ | with_reducible refine rI ?_ | with_reducible refine rS ?_ | ((with_reducible show wpAny _ _ (eval (Expr.Name _ _) _) _ _ _); refine nL (by assumption) rfl ?_) | ((with_reducible show wpAny _ _ (storeName _ _ _) _ _ _); refine rSt (by assumption) ?_; intro _ _) | ((with_reducible show wpAny _ _ (isTrue (Expr.Compare _ [_] [_] _) _ _) _ _ _); refine wpAny_isTrue_Compare1 ?_) | with_reducible refine wpAny_truthy_bool ?_ | with_reducible refine rEq ?_ | ((with_reducible show wpAny _ _ (eval (Expr.Call _ _ [] _) _) _ _ _); refine Call_ ?_) | ((with_reducible show wpAny _ _ (spliced (backTo _ (starEach (_ :: _) _))) _ _ _); refine spliced_more ?_) | ((with_reducible show wpAny _ _ (spliced (backTo _ (starEach [] _))) _ _ _); refine spliced_none ?_) | with_reducible refine wpAny_IfExp ?_) | (dsimp only; first | ((with_reducible show wpAny _ _ (execs (Stmt.Assign [Expr.Name _ _] _ _ :: _) _) _ _ _); refine rAs ?_) | with_reducible refine rRet ?_ | with_reducible refine rIf ?_ | with_reducible refine wpAny_BinOp ?_ | with_reducible refine rI ?_ | with_reducible refine rS ?_ | ((with_reducible show wpAny _ _ (eval (Expr.Name _ _) _) _ _ _); refine nL (by assumption) rfl ?_) | ((with_reducible show wpAny _ _ (storeName _ _ _) _ _ _); refine rSt (by assumption) ?_; intro _ _) | ((with_reducible show wpAny _ _ (isTrue (Expr.Compare _ [_] [_] _) _ _) _ _ _); refine wpAny_isTrue_Compare1 ?_) | with_reducible refine wpAny_truthy_bool ?_ | with_reducible refine rEq ?_ | ((with_reducible show wpAny _ _ (eval (Expr.Call _ _ [] _) _) _ _ _); refine Call_ ?_) | ((with_reducible show wpAny _ _ (spliced (backTo _ (starEach (_ :: _) _))) _ _ _); refine spliced_more ?_) | ((with_reducible show wpAny _ _ (spliced (backTo _ (starEach [] _))) _ _ _); refine spliced_none ?_) | with_reducible refine wpAny_IfExp ?_))
      by_cases hq : Lo + 1 = Hi
      · refine iteT (by simp; (clear hlen hn hlt hLL hf hct hLf h1 h2 h3; omega)) ?_
        repeat (first | (first | ((with_reducible show wpAny _ _ (execs (Stmt.Assign [Expr.Name _ _] _ _ :: _) _) _ _ _); refine rAs ?_) | with_reducible refine rRet ?_ | with_reducible refine rIf ?_ | with_reducible refine wpAny_BinOp ?_ | with_reducible refine rI ?_ | with_reducible refine rS ?_ | ((with_reducible show wpAny _ _ (eval (Expr.Name _ _) _) _ _ _); refine nL (by assumption) rfl ?_) | ((with_reducible show wpAny _ _ (storeName _ _ _) _ _ _); refine rSt (by assumption) ?_; intro _ _) | ((with_reducible show wpAny _ _ (isTrue (Expr.Compare _ [_] [_] _) _ _) _ _ _); refine wpAny_isTrue_Compare1 ?_) | with_reducible refine wpAny_truthy_bool ?_ | with_reducible refine rEq ?_ | ((with_reducible show wpAny _ _ (eval (Expr.Call _ _ [] _) _) _ _ _); refine Call_ ?_) | ((with_reducible show wpAny _ _ (spliced (backTo _ (starEach (_ :: _) _))) _ _ _); refine spliced_more ?_) | ((with_reducible show wpAny _ _ (spliced (backTo _ (starEach [] _))) _ _ _); refine spliced_none ?_) | with_reducible refine wpAny_IfExp ?_) | (dsimp only; first | ((with_reducible show wpAny _ _ (execs (Stmt.Assign [Expr.Name _ _] _ _ :: _) _) _ _ _); refine rAs ?_) | with_reducible refine rRet ?_ | with_reducible refine rIf ?_ | with_reducible refine wpAny_BinOp ?_ | with_reducible refine rI ?_ | with_reducible refine rS ?_ | ((with_reducible show wpAny _ _ (eval (Expr.Name _ _) _) _ _ _); refine nL (by assumption) rfl ?_) | ((with_reducible show wpAny _ _ (storeName _ _ _) _ _ _); refine rSt (by assumption) ?_; intro _ _) | ((with_reducible show wpAny _ _ (isTrue (Expr.Compare _ [_] [_] _) _ _) _ _ _); refine wpAny_isTrue_Compare1 ?_) | with_reducible refine wpAny_truthy_bool ?_ | with_reducible refine rEq ?_ | ((with_reducible show wpAny _ _ (eval (Expr.Call _ _ [] _) _) _ _ _); refine Call_ ?_) | ((with_reducible show wpAny _ _ (spliced (backTo _ (starEach (_ :: _) _))) _ _ _); refine spliced_more ?_) | ((with_reducible show wpAny _ _ (spliced (backTo _ (starEach [] _))) _ _ _); refine spliced_none ?_) | with_reducible refine wpAny_IfExp ?_))
        refine wpAny_Subscript_Name slot_list_getitem.lookup ?_
        refine nF rfl cd ?_
        repeat (first | (first | ((with_reducible show wpAny _ _ (execs (Stmt.Assign [Expr.Name _ _] _ _ :: _) _) _ _ _); refine rAs ?_) | with_reducible refine rRet ?_ | with_reducible refine rIf ?_ | with_reducible refine wpAny_BinOp ?_ | with_reducible refine rI ?_ | with_reducible refine rS ?_ | ((with_reducible show wpAny _ _ (eval (Expr.Name _ _) _) _ _ _); refine nL (by assumption) rfl ?_) | ((with_reducible show wpAny _ _ (storeName _ _ _) _ _ _); refine rSt (by assumption) ?_; intro _ _) | ((with_reducible show wpAny _ _ (isTrue (Expr.Compare _ [_] [_] _) _ _) _ _ _); refine wpAny_isTrue_Compare1 ?_) | with_reducible refine wpAny_truthy_bool ?_ | with_reducible refine rEq ?_ | ((with_reducible show wpAny _ _ (eval (Expr.Call _ _ [] _) _) _ _ _); refine Call_ ?_) | ((with_reducible show wpAny _ _ (spliced (backTo _ (starEach (_ :: _) _))) _ _ _); refine spliced_more ?_) | ((with_reducible show wpAny _ _ (spliced (backTo _ (starEach [] _))) _ _ _); refine spliced_none ?_) | with_reducible refine wpAny_IfExp ?_) | (dsimp only; first | ((with_reducible show wpAny _ _ (execs (Stmt.Assign [Expr.Name _ _] _ _ :: _) _) _ _ _); refine rAs ?_) | with_reducible refine rRet ?_ | with_reducible refine rIf ?_ | with_reducible refine wpAny_BinOp ?_ | with_reducible refine rI ?_ | with_reducible refine rS ?_ | ((with_reducible show wpAny _ _ (eval (Expr.Name _ _) _) _ _ _); refine nL (by assumption) rfl ?_) | ((with_reducible show wpAny _ _ (storeName _ _ _) _ _ _); refine rSt (by assumption) ?_; intro _ _) | ((with_reducible show wpAny _ _ (isTrue (Expr.Compare _ [_] [_] _) _ _) _ _ _); refine wpAny_isTrue_Compare1 ?_) | with_reducible refine wpAny_truthy_bool ?_ | with_reducible refine rEq ?_ | ((with_reducible show wpAny _ _ (eval (Expr.Call _ _ [] _) _) _ _ _); refine Call_ ?_) | ((with_reducible show wpAny _ _ (spliced (backTo _ (starEach (_ :: _) _))) _ _ _); refine spliced_more ?_) | ((with_reducible show wpAny _ _ (spliced (backTo _ (starEach [] _))) _ _ _); refine spliced_none ?_) | with_reducible refine wpAny_IfExp ?_))
        have hl4 := K4.list hl3 hlt List.not_mem_nil
        obtain ⟨tv, ev⟩ := intsAre_get hi (i := Lo) (by (clear hlen hn hlt hLL hf hct hLf h1 h2; omega))
        refine ⟨hl4.typeIs, wpAny_getItem_list hl4 (Int.natCast_nonneg _) (lt63 (Nat.lt_of_lt_of_le h2 h3) hlen) (x := .int ds[Lo] tv) (by simpa using ev) ?_⟩
        have e : Hi - Lo = 1 := by (clear hlen hn hlt hLL hf hct hLf h1 h2; omega)
        have := fun tks => hR tv h₄ tks F4.ok F4.kp
        rw [e, dsum_one n ds (by (clear hlen hn hlt hLL hf hct hLf h1 h2 e; omega))] at this
        exact this _
      · refine iteF (by simp; (clear hlen hn hlt hLL hf hct hLf h1 h2 h3; omega)) ?_
        refine nilNext ?_
        repeat (first | (first | ((with_reducible show wpAny _ _ (execs (Stmt.Assign [Expr.Name _ _] _ _ :: _) _) _ _ _); refine rAs ?_) | with_reducible refine rRet ?_ | with_reducible refine rIf ?_ | with_reducible refine wpAny_BinOp ?_ | with_reducible refine rI ?_ | with_reducible refine rS ?_ | ((with_reducible show wpAny _ _ (eval (Expr.Name _ _) _) _ _ _); refine nL (by assumption) rfl ?_) | ((with_reducible show wpAny _ _ (storeName _ _ _) _ _ _); refine rSt (by assumption) ?_; intro _ _) | ((with_reducible show wpAny _ _ (isTrue (Expr.Compare _ [_] [_] _) _ _) _ _ _); refine wpAny_isTrue_Compare1 ?_) | with_reducible refine wpAny_truthy_bool ?_ | with_reducible refine rEq ?_ | ((with_reducible show wpAny _ _ (eval (Expr.Call _ _ [] _) _) _ _ _); refine Call_ ?_) | ((with_reducible show wpAny _ _ (spliced (backTo _ (starEach (_ :: _) _))) _ _ _); refine spliced_more ?_) | ((with_reducible show wpAny _ _ (spliced (backTo _ (starEach [] _))) _ _ _); refine spliced_none ?_) | with_reducible refine wpAny_IfExp ?_) | (dsimp only; first | ((with_reducible show wpAny _ _ (execs (Stmt.Assign [Expr.Name _ _] _ _ :: _) _) _ _ _); refine rAs ?_) | with_reducible refine rRet ?_ | with_reducible refine rIf ?_ | with_reducible refine wpAny_BinOp ?_ | with_reducible refine rI ?_ | with_reducible refine rS ?_ | ((with_reducible show wpAny _ _ (eval (Expr.Name _ _) _) _ _ _); refine nL (by assumption) rfl ?_) | ((with_reducible show wpAny _ _ (storeName _ _ _) _ _ _); refine rSt (by assumption) ?_; intro _ _) | ((with_reducible show wpAny _ _ (isTrue (Expr.Compare _ [_] [_] _) _ _) _ _ _); refine wpAny_isTrue_Compare1 ?_) | with_reducible refine wpAny_truthy_bool ?_ | with_reducible refine rEq ?_ | ((with_reducible show wpAny _ _ (eval (Expr.Call _ _ [] _) _) _ _ _); refine Call_ ?_) | ((with_reducible show wpAny _ _ (spliced (backTo _ (starEach (_ :: _) _))) _ _ _); refine spliced_more ?_) | ((with_reducible show wpAny _ _ (spliced (backTo _ (starEach [] _))) _ _ _); refine spliced_none ?_) | with_reducible refine wpAny_IfExp ?_))
        refine rAdd (Lo + Hi : Nat) (Int.natCast_add _ _).symm ?_
        repeat (first | (first | ((with_reducible show wpAny _ _ (execs (Stmt.Assign [Expr.Name _ _] _ _ :: _) _) _ _ _); refine rAs ?_) | with_reducible refine rRet ?_ | with_reducible refine rIf ?_ | with_reducible refine wpAny_BinOp ?_ | with_reducible refine rI ?_ | with_reducible refine rS ?_ | ((with_reducible show wpAny _ _ (eval (Expr.Name _ _) _) _ _ _); refine nL (by assumption) rfl ?_) | ((with_reducible show wpAny _ _ (storeName _ _ _) _ _ _); refine rSt (by assumption) ?_; intro _ _) | ((with_reducible show wpAny _ _ (isTrue (Expr.Compare _ [_] [_] _) _ _) _ _ _); refine wpAny_isTrue_Compare1 ?_) | with_reducible refine wpAny_truthy_bool ?_ | with_reducible refine rEq ?_ | ((with_reducible show wpAny _ _ (eval (Expr.Call _ _ [] _) _) _ _ _); refine Call_ ?_) | ((with_reducible show wpAny _ _ (spliced (backTo _ (starEach (_ :: _) _))) _ _ _); refine spliced_more ?_) | ((with_reducible show wpAny _ _ (spliced (backTo _ (starEach [] _))) _ _ _); refine spliced_none ?_) | with_reducible refine wpAny_IfExp ?_) | (dsimp only; first | ((with_reducible show wpAny _ _ (execs (Stmt.Assign [Expr.Name _ _] _ _ :: _) _) _ _ _); refine rAs ?_) | with_reducible refine rRet ?_ | with_reducible refine rIf ?_ | with_reducible refine wpAny_BinOp ?_ | with_reducible refine rI ?_ | with_reducible refine rS ?_ | ((with_reducible show wpAny _ _ (eval (Expr.Name _ _) _) _ _ _); refine nL (by assumption) rfl ?_) | ((with_reducible show wpAny _ _ (storeName _ _ _) _ _ _); refine rSt (by assumption) ?_; intro _ _) | ((with_reducible show wpAny _ _ (isTrue (Expr.Compare _ [_] [_] _) _ _) _ _ _); refine wpAny_isTrue_Compare1 ?_) | with_reducible refine wpAny_truthy_bool ?_ | with_reducible refine rEq ?_ | ((with_reducible show wpAny _ _ (eval (Expr.Call _ _ [] _) _) _ _ _); refine Call_ ?_) | ((with_reducible show wpAny _ _ (spliced (backTo _ (starEach (_ :: _) _))) _ _ _); refine spliced_more ?_) | ((with_reducible show wpAny _ _ (spliced (backTo _ (starEach [] _))) _ _ _); refine spliced_none ?_) | with_reducible refine wpAny_IfExp ?_))
        refine rRsh1 (Lo + Hi) rfl ?_
        generalize hmid : (Lo + Hi) / 2 = mid
        have m12 : Lo < mid ∧ mid < Hi := by (clear hlen hn hlt hLL hf hct hLf h1 h3; omega)
        obtain ⟨m1, m2⟩ := m12
        have m3 : mid ≤ ds.length := Nat.le_trans (Nat.le_of_lt m2) h3
        have hml : mid - Lo ≤ 1000 := Nat.le_trans (Nat.sub_le _ _) (Nat.le_trans m3 hlen)
        have m4 : Hi - mid ≤ 1000 := Nat.le_trans (Nat.sub_le _ _) (Nat.le_trans h3 hlen)
        repeat (first | (first | ((with_reducible show wpAny _ _ (execs (Stmt.Assign [Expr.Name _ _] _ _ :: _) _) _ _ _); refine rAs ?_) | with_reducible refine rRet ?_ | with_reducible refine rIf ?_ | with_reducible refine wpAny_BinOp ?_ | with_reducible refine rI ?_ | with_reducible refine rS ?_ | ((with_reducible show wpAny _ _ (eval (Expr.Name _ _) _) _ _ _); refine nL (by assumption) rfl ?_) | ((with_reducible show wpAny _ _ (storeName _ _ _) _ _ _); refine rSt (by assumption) ?_; intro _ _) | ((with_reducible show wpAny _ _ (isTrue (Expr.Compare _ [_] [_] _) _ _) _ _ _); refine wpAny_isTrue_Compare1 ?_) | with_reducible refine wpAny_truthy_bool ?_ | with_reducible refine rEq ?_ | ((with_reducible show wpAny _ _ (eval (Expr.Call _ _ [] _) _) _ _ _); refine Call_ ?_) | ((with_reducible show wpAny _ _ (spliced (backTo _ (starEach (_ :: _) _))) _ _ _); refine spliced_more ?_) | ((with_reducible show wpAny _ _ (spliced (backTo _ (starEach [] _))) _ _ _); refine spliced_none ?_) | with_reducible refine wpAny_IfExp ?_) | (dsimp only; first | ((with_reducible show wpAny _ _ (execs (Stmt.Assign [Expr.Name _ _] _ _ :: _) _) _ _ _); refine rAs ?_) | with_reducible refine rRet ?_ | with_reducible refine rIf ?_ | with_reducible refine wpAny_BinOp ?_ | with_reducible refine rI ?_ | with_reducible refine rS ?_ | ((with_reducible show wpAny _ _ (eval (Expr.Name _ _) _) _ _ _); refine nL (by assumption) rfl ?_) | ((with_reducible show wpAny _ _ (storeName _ _ _) _ _ _); refine rSt (by assumption) ?_; intro _ _) | ((with_reducible show wpAny _ _ (isTrue (Expr.Compare _ [_] [_] _) _ _) _ _ _); refine wpAny_isTrue_Compare1 ?_) | with_reducible refine wpAny_truthy_bool ?_ | with_reducible refine rEq ?_ | ((with_reducible show wpAny _ _ (eval (Expr.Call _ _ [] _) _) _ _ _); refine Call_ ?_) | ((with_reducible show wpAny _ _ (spliced (backTo _ (starEach (_ :: _) _))) _ _ _); refine spliced_more ?_) | ((with_reducible show wpAny _ _ (spliced (backTo _ (starEach [] _))) _ _ _); refine spliced_none ?_) | with_reducible refine wpAny_IfExp ?_))
        refine rSub (mid - Lo : Nat) (Int.natCast_sub (Nat.le_of_lt m1)).symm ?_
        rename_i h5 F5
        have K5 := K'.trans F5.kp
        refine nF rfl (K5.cell hc2 (nt _ (by omega)) List.not_mem_nil) ?_
        refine rMul ((mid - Lo) * n : Nat) (by rw [Int.natCast_mul]) (.inl (bits_nat (Nat.lt_of_le_of_lt hml (by decide)))) ?_
        repeat (first | (first | ((with_reducible show wpAny _ _ (execs (Stmt.Assign [Expr.Name _ _] _ _ :: _) _) _ _ _); refine rAs ?_) | with_reducible refine rRet ?_ | with_reducible refine rIf ?_ | with_reducible refine wpAny_BinOp ?_ | with_reducible refine rI ?_ | with_reducible refine rS ?_ | ((with_reducible show wpAny _ _ (eval (Expr.Name _ _) _) _ _ _); refine nL (by assumption) rfl ?_) | ((with_reducible show wpAny _ _ (storeName _ _ _) _ _ _); refine rSt (by assumption) ?_; intro _ _) | ((with_reducible show wpAny _ _ (isTrue (Expr.Compare _ [_] [_] _) _ _) _ _ _); refine wpAny_isTrue_Compare1 ?_) | with_reducible refine wpAny_truthy_bool ?_ | with_reducible refine rEq ?_ | ((with_reducible show wpAny _ _ (eval (Expr.Call _ _ [] _) _) _ _ _); refine Call_ ?_) | ((with_reducible show wpAny _ _ (spliced (backTo _ (starEach (_ :: _) _))) _ _ _); refine spliced_more ?_) | ((with_reducible show wpAny _ _ (spliced (backTo _ (starEach [] _))) _ _ _); refine spliced_none ?_) | with_reducible refine wpAny_IfExp ?_) | (dsimp only; first | ((with_reducible show wpAny _ _ (execs (Stmt.Assign [Expr.Name _ _] _ _ :: _) _) _ _ _); refine rAs ?_) | with_reducible refine rRet ?_ | with_reducible refine rIf ?_ | with_reducible refine wpAny_BinOp ?_ | with_reducible refine rI ?_ | with_reducible refine rS ?_ | ((with_reducible show wpAny _ _ (eval (Expr.Name _ _) _) _ _ _); refine nL (by assumption) rfl ?_) | ((with_reducible show wpAny _ _ (storeName _ _ _) _ _ _); refine rSt (by assumption) ?_; intro _ _) | ((with_reducible show wpAny _ _ (isTrue (Expr.Compare _ [_] [_] _) _ _) _ _ _); refine wpAny_isTrue_Compare1 ?_) | with_reducible refine wpAny_truthy_bool ?_ | with_reducible refine rEq ?_ | ((with_reducible show wpAny _ _ (eval (Expr.Call _ _ [] _) _) _ _ _); refine Call_ ?_) | ((with_reducible show wpAny _ _ (spliced (backTo _ (starEach (_ :: _) _))) _ _ _); refine spliced_more ?_) | ((with_reducible show wpAny _ _ (spliced (backTo _ (starEach [] _))) _ _ _); refine spliced_none ?_) | with_reducible refine wpAny_IfExp ?_))
        rename_i h6 F6
        have K6 := K'.trans F6.kp
        refine nF rfl (K6.cell hc3 (nt _ (by omega)) List.not_mem_nil) ?_
        refine rCW (K6.kp _ _ hfo3 (nt _ hLf) List.not_mem_nil) rfl ?_
        repeat (first | (first | ((with_reducible show wpAny _ _ (execs (Stmt.Assign [Expr.Name _ _] _ _ :: _) _) _ _ _); refine rAs ?_) | with_reducible refine rRet ?_ | with_reducible refine rIf ?_ | with_reducible refine wpAny_BinOp ?_ | with_reducible refine rI ?_ | with_reducible refine rS ?_ | ((with_reducible show wpAny _ _ (eval (Expr.Name _ _) _) _ _ _); refine nL (by assumption) rfl ?_) | ((with_reducible show wpAny _ _ (storeName _ _ _) _ _ _); refine rSt (by assumption) ?_; intro _ _) | ((with_reducible show wpAny _ _ (isTrue (Expr.Compare _ [_] [_] _) _ _) _ _ _); refine wpAny_isTrue_Compare1 ?_) | with_reducible refine wpAny_truthy_bool ?_ | with_reducible refine rEq ?_ | ((with_reducible show wpAny _ _ (eval (Expr.Call _ _ [] _) _) _ _ _); refine Call_ ?_) | ((with_reducible show wpAny _ _ (spliced (backTo _ (starEach (_ :: _) _))) _ _ _); refine spliced_more ?_) | ((with_reducible show wpAny _ _ (spliced (backTo _ (starEach [] _))) _ _ _); refine spliced_none ?_) | with_reducible refine wpAny_IfExp ?_) | (dsimp only; first | ((with_reducible show wpAny _ _ (execs (Stmt.Assign [Expr.Name _ _] _ _ :: _) _) _ _ _); refine rAs ?_) | with_reducible refine rRet ?_ | with_reducible refine rIf ?_ | with_reducible refine wpAny_BinOp ?_ | with_reducible refine rI ?_ | with_reducible refine rS ?_ | ((with_reducible show wpAny _ _ (eval (Expr.Name _ _) _) _ _ _); refine nL (by assumption) rfl ?_) | ((with_reducible show wpAny _ _ (storeName _ _ _) _ _ _); refine rSt (by assumption) ?_; intro _ _) | ((with_reducible show wpAny _ _ (isTrue (Expr.Compare _ [_] [_] _) _ _) _ _ _); refine wpAny_isTrue_Compare1 ?_) | with_reducible refine wpAny_truthy_bool ?_ | with_reducible refine rEq ?_ | ((with_reducible show wpAny _ _ (eval (Expr.Call _ _ [] _) _) _ _ _); refine Call_ ?_) | ((with_reducible show wpAny _ _ (spliced (backTo _ (starEach (_ :: _) _))) _ _ _); refine spliced_more ?_) | ((with_reducible show wpAny _ _ (spliced (backTo _ (starEach [] _))) _ _ _); refine spliced_none ?_) | with_reducible refine wpAny_IfExp ?_))
        refine ⟨K6.kp _ _ hfo3 (nt _ hLf) List.not_mem_nil, ?_⟩
        refine ih mid Hi (subB h1 m1 m2) m2 h3 _ _ _ _ _ _ F6.ok K6 rm4 ?_
        intro tk7 h7 tks7 k7 K7
        have F7 := F6.call k7 K7
        have hdm : ∀ d ∈ (ds.drop mid).take (Hi - mid), 0 ≤ d ∧ d < 2 ^ n := fun d hd' => hd d (List.mem_of_mem_drop (List.mem_of_mem_take hd'))
        have hbd := dsum_bound n _ hdm
        have hl7 : ((ds.drop mid).take (Hi - mid)).length = Hi - mid := len_dt (Nat.le_of_lt m2) h3 rfl
        rw [hl7] at hbd
        repeat (first | (first | ((with_reducible show wpAny _ _ (execs (Stmt.Assign [Expr.Name _ _] _ _ :: _) _) _ _ _); refine rAs ?_) | with_reducible refine rRet ?_ | with_reducible refine rIf ?_ | with_reducible refine wpAny_BinOp ?_ | with_reducible refine rI ?_ | with_reducible refine rS ?_ | ((with_reducible show wpAny _ _ (eval (Expr.Name _ _) _) _ _ _); refine nL (by assumption) rfl ?_) | ((with_reducible show wpAny _ _ (storeName _ _ _) _ _ _); refine rSt (by assumption) ?_; intro _ _) | ((with_reducible show wpAny _ _ (isTrue (Expr.Compare _ [_] [_] _) _ _) _ _ _); refine wpAny_isTrue_Compare1 ?_) | with_reducible refine wpAny_truthy_bool ?_ | with_reducible refine rEq ?_ | ((with_reducible show wpAny _ _ (eval (Expr.Call _ _ [] _) _) _ _ _); refine Call_ ?_) | ((with_reducible show wpAny _ _ (spliced (backTo _ (starEach (_ :: _) _))) _ _ _); refine spliced_more ?_) | ((with_reducible show wpAny _ _ (spliced (backTo _ (starEach [] _))) _ _ _); refine spliced_none ?_) | with_reducible refine wpAny_IfExp ?_) | (dsimp only; first | ((with_reducible show wpAny _ _ (execs (Stmt.Assign [Expr.Name _ _] _ _ :: _) _) _ _ _); refine rAs ?_) | with_reducible refine rRet ?_ | with_reducible refine rIf ?_ | with_reducible refine wpAny_BinOp ?_ | with_reducible refine rI ?_ | with_reducible refine rS ?_ | ((with_reducible show wpAny _ _ (eval (Expr.Name _ _) _) _ _ _); refine nL (by assumption) rfl ?_) | ((with_reducible show wpAny _ _ (storeName _ _ _) _ _ _); refine rSt (by assumption) ?_; intro _ _) | ((with_reducible show wpAny _ _ (isTrue (Expr.Compare _ [_] [_] _) _ _) _ _ _); refine wpAny_isTrue_Compare1 ?_) | with_reducible refine wpAny_truthy_bool ?_ | with_reducible refine rEq ?_ | ((with_reducible show wpAny _ _ (eval (Expr.Call _ _ [] _) _) _ _ _); refine Call_ ?_) | ((with_reducible show wpAny _ _ (spliced (backTo _ (starEach (_ :: _) _))) _ _ _); refine spliced_more ?_) | ((with_reducible show wpAny _ _ (spliced (backTo _ (starEach [] _))) _ _ _); refine spliced_none ?_) | with_reducible refine wpAny_IfExp ?_))
        refine rLsh ((mid - Lo) * n) _ rfl rfl rm4.hd ?_ ?_
        · have q1 := bits_lt hbd.1 hbd.2
          have q2 : n * (Hi - mid) ≤ 1000 * 1000 := Nat.mul_le_mul hn m4
          have q3 : (mid - Lo) * n ≤ 1000 * 1000 := Nat.mul_le_mul hml hn
          (clear hlen hn hlt hLL hf hct hLf h1 h2 h3 hq hmid hbd hl7; omega)
        have K8 := K'.trans F7.kp
        repeat (first | (first | ((with_reducible show wpAny _ _ (execs (Stmt.Assign [Expr.Name _ _] _ _ :: _) _) _ _ _); refine rAs ?_) | with_reducible refine rRet ?_ | with_reducible refine rIf ?_ | with_reducible refine wpAny_BinOp ?_ | with_reducible refine rI ?_ | with_reducible refine rS ?_ | ((with_reducible show wpAny _ _ (eval (Expr.Name _ _) _) _ _ _); refine nL (by assumption) rfl ?_) | ((with_reducible show wpAny _ _ (storeName _ _ _) _ _ _); refine rSt (by assumption) ?_; intro _ _) | ((with_reducible show wpAny _ _ (isTrue (Expr.Compare _ [_] [_] _) _ _) _ _ _); refine wpAny_isTrue_Compare1 ?_) | with_reducible refine wpAny_truthy_bool ?_ | with_reducible refine rEq ?_ | ((with_reducible show wpAny _ _ (eval (Expr.Call _ _ [] _) _) _ _ _); refine Call_ ?_) | ((with_reducible show wpAny _ _ (spliced (backTo _ (starEach (_ :: _) _))) _ _ _); refine spliced_more ?_) | ((with_reducible show wpAny _ _ (spliced (backTo _ (starEach [] _))) _ _ _); refine spliced_none ?_) | with_reducible refine wpAny_IfExp ?_) | (dsimp only; first | ((with_reducible show wpAny _ _ (execs (Stmt.Assign [Expr.Name _ _] _ _ :: _) _) _ _ _); refine rAs ?_) | with_reducible refine rRet ?_ | with_reducible refine rIf ?_ | with_reducible refine wpAny_BinOp ?_ | with_reducible refine rI ?_ | with_reducible refine rS ?_ | ((with_reducible show wpAny _ _ (eval (Expr.Name _ _) _) _ _ _); refine nL (by assumption) rfl ?_) | ((with_reducible show wpAny _ _ (storeName _ _ _) _ _ _); refine rSt (by assumption) ?_; intro _ _) | ((with_reducible show wpAny _ _ (isTrue (Expr.Compare _ [_] [_] _) _ _) _ _ _); refine wpAny_isTrue_Compare1 ?_) | with_reducible refine wpAny_truthy_bool ?_ | with_reducible refine rEq ?_ | ((with_reducible show wpAny _ _ (eval (Expr.Call _ _ [] _) _) _ _ _); refine Call_ ?_) | ((with_reducible show wpAny _ _ (spliced (backTo _ (starEach (_ :: _) _))) _ _ _); refine spliced_more ?_) | ((with_reducible show wpAny _ _ (spliced (backTo _ (starEach [] _))) _ _ _); refine spliced_none ?_) | with_reducible refine wpAny_IfExp ?_))
        refine nF rfl (K8.cell hc3 (nt _ (by omega)) List.not_mem_nil) ?_
        refine rCW (K8.kp _ _ hfo3 (nt _ hLf) List.not_mem_nil) rfl ?_
        repeat (first | (first | ((with_reducible show wpAny _ _ (execs (Stmt.Assign [Expr.Name _ _] _ _ :: _) _) _ _ _); refine rAs ?_) | with_reducible refine rRet ?_ | with_reducible refine rIf ?_ | with_reducible refine wpAny_BinOp ?_ | with_reducible refine rI ?_ | with_reducible refine rS ?_ | ((with_reducible show wpAny _ _ (eval (Expr.Name _ _) _) _ _ _); refine nL (by assumption) rfl ?_) | ((with_reducible show wpAny _ _ (storeName _ _ _) _ _ _); refine rSt (by assumption) ?_; intro _ _) | ((with_reducible show wpAny _ _ (isTrue (Expr.Compare _ [_] [_] _) _ _) _ _ _); refine wpAny_isTrue_Compare1 ?_) | with_reducible refine wpAny_truthy_bool ?_ | with_reducible refine rEq ?_ | ((with_reducible show wpAny _ _ (eval (Expr.Call _ _ [] _) _) _ _ _); refine Call_ ?_) | ((with_reducible show wpAny _ _ (spliced (backTo _ (starEach (_ :: _) _))) _ _ _); refine spliced_more ?_) | ((with_reducible show wpAny _ _ (spliced (backTo _ (starEach [] _))) _ _ _); refine spliced_none ?_) | with_reducible refine wpAny_IfExp ?_) | (dsimp only; first | ((with_reducible show wpAny _ _ (execs (Stmt.Assign [Expr.Name _ _] _ _ :: _) _) _ _ _); refine rAs ?_) | with_reducible refine rRet ?_ | with_reducible refine rIf ?_ | with_reducible refine wpAny_BinOp ?_ | with_reducible refine rI ?_ | with_reducible refine rS ?_ | ((with_reducible show wpAny _ _ (eval (Expr.Name _ _) _) _ _ _); refine nL (by assumption) rfl ?_) | ((with_reducible show wpAny _ _ (storeName _ _ _) _ _ _); refine rSt (by assumption) ?_; intro _ _) | ((with_reducible show wpAny _ _ (isTrue (Expr.Compare _ [_] [_] _) _ _) _ _ _); refine wpAny_isTrue_Compare1 ?_) | with_reducible refine wpAny_truthy_bool ?_ | with_reducible refine rEq ?_ | ((with_reducible show wpAny _ _ (eval (Expr.Call _ _ [] _) _) _ _ _); refine Call_ ?_) | ((with_reducible show wpAny _ _ (spliced (backTo _ (starEach (_ :: _) _))) _ _ _); refine spliced_more ?_) | ((with_reducible show wpAny _ _ (spliced (backTo _ (starEach [] _))) _ _ _); refine spliced_none ?_) | with_reducible refine wpAny_IfExp ?_))
        refine ⟨K8.kp _ _ hfo3 (nt _ hLf) List.not_mem_nil, ?_⟩
        refine ih Lo mid (subA h1 m2 m1) m1 m3 _ _ _ _ _ _ F7.ok K8 rm4 ?_
        intro tk9 h9 tks9 k9 K9
        have F9 := F7.call k9 K9
        refine rAdd _ (dsum_mid n ds (Nat.le_of_lt m1) (Nat.le_of_lt m2) h3) ?_
        exact hR _ h9 _ F9.ok F9.kp
  repeat (first | (first | ((with_reducible show wpAny _ _ (execs (Stmt.Assign [Expr.Name _ _] _ _ :: _) _) _ _ _); refine rAs ?_) | with_reducible refine rRet ?_ | with_reducible refine rIf ?_ | with_reducible refine wpAny_BinOp ?_ | with_reducible refine rI ?_ | with_reducible refine rS ?_ | ((with_reducible show wpAny _ _ (eval (Expr.Name _ _) _) _ _ _); refine nL (by assumption) rfl ?_) | ((with_reducible show wpAny _ _ (storeName _ _ _) _ _ _); refine rSt (by assumption) ?_; intro _ _) | ((with_reducible show wpAny _ _ (isTrue (Expr.Compare _ [_] [_] _) _ _) _ _ _); refine wpAny_isTrue_Compare1 ?_) | with_reducible refine wpAny_truthy_bool ?_ | with_reducible refine rEq ?_ | ((with_reducible show wpAny _ _ (eval (Expr.Call _ _ [] _) _) _ _ _); refine Call_ ?_) | ((with_reducible show wpAny _ _ (spliced (backTo _ (starEach (_ :: _) _))) _ _ _); refine spliced_more ?_) | ((with_reducible show wpAny _ _ (spliced (backTo _ (starEach [] _))) _ _ _); refine spliced_none ?_) | with_reducible refine wpAny_IfExp ?_) | (dsimp only; first | ((with_reducible show wpAny _ _ (execs (Stmt.Assign [Expr.Name _ _] _ _ :: _) _) _ _ _); refine rAs ?_) | with_reducible refine rRet ?_ | with_reducible refine rIf ?_ | with_reducible refine wpAny_BinOp ?_ | with_reducible refine rI ?_ | with_reducible refine rS ?_ | ((with_reducible show wpAny _ _ (eval (Expr.Name _ _) _) _ _ _); refine nL (by assumption) rfl ?_) | ((with_reducible show wpAny _ _ (storeName _ _ _) _ _ _); refine rSt (by assumption) ?_; intro _ _) | ((with_reducible show wpAny _ _ (isTrue (Expr.Compare _ [_] [_] _) _ _) _ _ _); refine wpAny_isTrue_Compare1 ?_) | with_reducible refine wpAny_truthy_bool ?_ | with_reducible refine rEq ?_ | ((with_reducible show wpAny _ _ (eval (Expr.Call _ _ [] _) _) _ _ _); refine Call_ ?_) | ((with_reducible show wpAny _ _ (spliced (backTo _ (starEach (_ :: _) _))) _ _ _); refine spliced_more ?_) | ((with_reducible show wpAny _ _ (spliced (backTo _ (starEach [] _))) _ _ _); refine spliced_none ?_) | with_reducible refine wpAny_IfExp ?_))
  refine isTrue_plain ?_
  refine nC rfl hc1 ?_
  refine wpAny_truthy_list hl3 (by have := hi.length; simp; (clear hn hlt hLL hf hct hLf; omega)) ?_
  have hvl : vs.length = ds.length := hi.length
  cases ds with
  | nil =>
    obtain rfl := hi.nil_inv
    refine iteF (by simp) ?_
    dsimp only
    repeat (first | (first | ((with_reducible show wpAny _ _ (execs (Stmt.Assign [Expr.Name _ _] _ _ :: _) _) _ _ _); refine rAs ?_) | with_reducible refine rRet ?_ | with_reducible refine rIf ?_ | with_reducible refine wpAny_BinOp ?_ | with_reducible refine rI ?_ | with_reducible refine rS ?_ | ((with_reducible show wpAny _ _ (eval (Expr.Name _ _) _) _ _ _); refine nL (by assumption) rfl ?_) | ((with_reducible show wpAny _ _ (storeName _ _ _) _ _ _); refine rSt (by assumption) ?_; intro _ _) | ((with_reducible show wpAny _ _ (isTrue (Expr.Compare _ [_] [_] _) _ _) _ _ _); refine wpAny_isTrue_Compare1 ?_) | with_reducible refine wpAny_truthy_bool ?_ | with_reducible refine rEq ?_ | ((with_reducible show wpAny _ _ (eval (Expr.Call _ _ [] _) _) _ _ _); refine Call_ ?_) | ((with_reducible show wpAny _ _ (spliced (backTo _ (starEach (_ :: _) _))) _ _ _); refine spliced_more ?_) | ((with_reducible show wpAny _ _ (spliced (backTo _ (starEach [] _))) _ _ _); refine spliced_none ?_) | with_reducible refine wpAny_IfExp ?_) | (dsimp only; first | ((with_reducible show wpAny _ _ (execs (Stmt.Assign [Expr.Name _ _] _ _ :: _) _) _ _ _); refine rAs ?_) | with_reducible refine rRet ?_ | with_reducible refine rIf ?_ | with_reducible refine wpAny_BinOp ?_ | with_reducible refine rI ?_ | with_reducible refine rS ?_ | ((with_reducible show wpAny _ _ (eval (Expr.Name _ _) _) _ _ _); refine nL (by assumption) rfl ?_) | ((with_reducible show wpAny _ _ (storeName _ _ _) _ _ _); refine rSt (by assumption) ?_; intro _ _) | ((with_reducible show wpAny _ _ (isTrue (Expr.Compare _ [_] [_] _) _ _) _ _ _); refine wpAny_isTrue_Compare1 ?_) | with_reducible refine wpAny_truthy_bool ?_ | with_reducible refine rEq ?_ | ((with_reducible show wpAny _ _ (eval (Expr.Call _ _ [] _) _) _ _ _); refine Call_ ?_) | ((with_reducible show wpAny _ _ (spliced (backTo _ (starEach (_ :: _) _))) _ _ _); refine spliced_more ?_) | ((with_reducible show wpAny _ _ (spliced (backTo _ (starEach [] _))) _ _ _); refine spliced_none ?_) | with_reducible refine wpAny_IfExp ?_))
    exact h _ _ _ F3.ok F3.kp
  | cons d ds' =>
    refine iteT (by cases vs with | nil => simp at hvl | cons => simp) ?_
    dsimp only
    repeat (first | (first | ((with_reducible show wpAny _ _ (execs (Stmt.Assign [Expr.Name _ _] _ _ :: _) _) _ _ _); refine rAs ?_) | with_reducible refine rRet ?_ | with_reducible refine rIf ?_ | with_reducible refine wpAny_BinOp ?_ | with_reducible refine rI ?_ | with_reducible refine rS ?_ | ((with_reducible show wpAny _ _ (eval (Expr.Name _ _) _) _ _ _); refine nL (by assumption) rfl ?_) | ((with_reducible show wpAny _ _ (storeName _ _ _) _ _ _); refine rSt (by assumption) ?_; intro _ _) | ((with_reducible show wpAny _ _ (isTrue (Expr.Compare _ [_] [_] _) _ _) _ _ _); refine wpAny_isTrue_Compare1 ?_) | with_reducible refine wpAny_truthy_bool ?_ | with_reducible refine rEq ?_ | ((with_reducible show wpAny _ _ (eval (Expr.Call _ _ [] _) _) _ _ _); refine Call_ ?_) | ((with_reducible show wpAny _ _ (spliced (backTo _ (starEach (_ :: _) _))) _ _ _); refine spliced_more ?_) | ((with_reducible show wpAny _ _ (spliced (backTo _ (starEach [] _))) _ _ _); refine spliced_none ?_) | with_reducible refine wpAny_IfExp ?_) | (dsimp only; first | ((with_reducible show wpAny _ _ (execs (Stmt.Assign [Expr.Name _ _] _ _ :: _) _) _ _ _); refine rAs ?_) | with_reducible refine rRet ?_ | with_reducible refine rIf ?_ | with_reducible refine wpAny_BinOp ?_ | with_reducible refine rI ?_ | with_reducible refine rS ?_ | ((with_reducible show wpAny _ _ (eval (Expr.Name _ _) _) _ _ _); refine nL (by assumption) rfl ?_) | ((with_reducible show wpAny _ _ (storeName _ _ _) _ _ _); refine rSt (by assumption) ?_; intro _ _) | ((with_reducible show wpAny _ _ (isTrue (Expr.Compare _ [_] [_] _) _ _) _ _ _); refine wpAny_isTrue_Compare1 ?_) | with_reducible refine wpAny_truthy_bool ?_ | with_reducible refine rEq ?_ | ((with_reducible show wpAny _ _ (eval (Expr.Call _ _ [] _) _) _ _ _); refine Call_ ?_) | ((with_reducible show wpAny _ _ (spliced (backTo _ (starEach (_ :: _) _))) _ _ _); refine spliced_more ?_) | ((with_reducible show wpAny _ _ (spliced (backTo _ (starEach [] _))) _ _ _); refine spliced_none ?_) | with_reducible refine wpAny_IfExp ?_))
    refine nC rfl hc3 ?_
    refine rCW hfo3 rfl ?_
    repeat (first | (first | ((with_reducible show wpAny _ _ (execs (Stmt.Assign [Expr.Name _ _] _ _ :: _) _) _ _ _); refine rAs ?_) | with_reducible refine rRet ?_ | with_reducible refine rIf ?_ | with_reducible refine wpAny_BinOp ?_ | with_reducible refine rI ?_ | with_reducible refine rS ?_ | ((with_reducible show wpAny _ _ (eval (Expr.Name _ _) _) _ _ _); refine nL (by assumption) rfl ?_) | ((with_reducible show wpAny _ _ (storeName _ _ _) _ _ _); refine rSt (by assumption) ?_; intro _ _) | ((with_reducible show wpAny _ _ (isTrue (Expr.Compare _ [_] [_] _) _ _) _ _ _); refine wpAny_isTrue_Compare1 ?_) | with_reducible refine wpAny_truthy_bool ?_ | with_reducible refine rEq ?_ | ((with_reducible show wpAny _ _ (eval (Expr.Call _ _ [] _) _) _ _ _); refine Call_ ?_) | ((with_reducible show wpAny _ _ (spliced (backTo _ (starEach (_ :: _) _))) _ _ _); refine spliced_more ?_) | ((with_reducible show wpAny _ _ (spliced (backTo _ (starEach [] _))) _ _ _); refine spliced_none ?_) | with_reducible refine wpAny_IfExp ?_) | (dsimp only; first | ((with_reducible show wpAny _ _ (execs (Stmt.Assign [Expr.Name _ _] _ _ :: _) _) _ _ _); refine rAs ?_) | with_reducible refine rRet ?_ | with_reducible refine rIf ?_ | with_reducible refine wpAny_BinOp ?_ | with_reducible refine rI ?_ | with_reducible refine rS ?_ | ((with_reducible show wpAny _ _ (eval (Expr.Name _ _) _) _ _ _); refine nL (by assumption) rfl ?_) | ((with_reducible show wpAny _ _ (storeName _ _ _) _ _ _); refine rSt (by assumption) ?_; intro _ _) | ((with_reducible show wpAny _ _ (isTrue (Expr.Compare _ [_] [_] _) _ _) _ _ _); refine wpAny_isTrue_Compare1 ?_) | with_reducible refine wpAny_truthy_bool ?_ | with_reducible refine rEq ?_ | ((with_reducible show wpAny _ _ (eval (Expr.Call _ _ [] _) _) _ _ _); refine Call_ ?_) | ((with_reducible show wpAny _ _ (spliced (backTo _ (starEach (_ :: _) _))) _ _ _); refine spliced_more ?_) | ((with_reducible show wpAny _ _ (spliced (backTo _ (starEach [] _))) _ _ _); refine spliced_none ?_) | with_reducible refine wpAny_IfExp ?_))
    refine nB G F3 rfl rfl ?_
    refine PyProof.Rows.callWith_builtin1 ?_
    repeat (first | (first | ((with_reducible show wpAny _ _ (execs (Stmt.Assign [Expr.Name _ _] _ _ :: _) _) _ _ _); refine rAs ?_) | with_reducible refine rRet ?_ | with_reducible refine rIf ?_ | with_reducible refine wpAny_BinOp ?_ | with_reducible refine rI ?_ | with_reducible refine rS ?_ | ((with_reducible show wpAny _ _ (eval (Expr.Name _ _) _) _ _ _); refine nL (by assumption) rfl ?_) | ((with_reducible show wpAny _ _ (storeName _ _ _) _ _ _); refine rSt (by assumption) ?_; intro _ _) | ((with_reducible show wpAny _ _ (isTrue (Expr.Compare _ [_] [_] _) _ _) _ _ _); refine wpAny_isTrue_Compare1 ?_) | with_reducible refine wpAny_truthy_bool ?_ | with_reducible refine rEq ?_ | ((with_reducible show wpAny _ _ (eval (Expr.Call _ _ [] _) _) _ _ _); refine Call_ ?_) | ((with_reducible show wpAny _ _ (spliced (backTo _ (starEach (_ :: _) _))) _ _ _); refine spliced_more ?_) | ((with_reducible show wpAny _ _ (spliced (backTo _ (starEach [] _))) _ _ _); refine spliced_none ?_) | with_reducible refine wpAny_IfExp ?_) | (dsimp only; first | ((with_reducible show wpAny _ _ (execs (Stmt.Assign [Expr.Name _ _] _ _ :: _) _) _ _ _); refine rAs ?_) | with_reducible refine rRet ?_ | with_reducible refine rIf ?_ | with_reducible refine wpAny_BinOp ?_ | with_reducible refine rI ?_ | with_reducible refine rS ?_ | ((with_reducible show wpAny _ _ (eval (Expr.Name _ _) _) _ _ _); refine nL (by assumption) rfl ?_) | ((with_reducible show wpAny _ _ (storeName _ _ _) _ _ _); refine rSt (by assumption) ?_; intro _ _) | ((with_reducible show wpAny _ _ (isTrue (Expr.Compare _ [_] [_] _) _ _) _ _ _); refine wpAny_isTrue_Compare1 ?_) | with_reducible refine wpAny_truthy_bool ?_ | with_reducible refine rEq ?_ | ((with_reducible show wpAny _ _ (eval (Expr.Call _ _ [] _) _) _ _ _); refine Call_ ?_) | ((with_reducible show wpAny _ _ (spliced (backTo _ (starEach (_ :: _) _))) _ _ _); refine spliced_more ?_) | ((with_reducible show wpAny _ _ (spliced (backTo _ (starEach [] _))) _ _ _); refine spliced_none ?_) | with_reducible refine wpAny_IfExp ?_))
    refine nC rfl hc1 ?_
    repeat (first | (first | ((with_reducible show wpAny _ _ (execs (Stmt.Assign [Expr.Name _ _] _ _ :: _) _) _ _ _); refine rAs ?_) | with_reducible refine rRet ?_ | with_reducible refine rIf ?_ | with_reducible refine wpAny_BinOp ?_ | with_reducible refine rI ?_ | with_reducible refine rS ?_ | ((with_reducible show wpAny _ _ (eval (Expr.Name _ _) _) _ _ _); refine nL (by assumption) rfl ?_) | ((with_reducible show wpAny _ _ (storeName _ _ _) _ _ _); refine rSt (by assumption) ?_; intro _ _) | ((with_reducible show wpAny _ _ (isTrue (Expr.Compare _ [_] [_] _) _ _) _ _ _); refine wpAny_isTrue_Compare1 ?_) | with_reducible refine wpAny_truthy_bool ?_ | with_reducible refine rEq ?_ | ((with_reducible show wpAny _ _ (eval (Expr.Call _ _ [] _) _) _ _ _); refine Call_ ?_) | ((with_reducible show wpAny _ _ (spliced (backTo _ (starEach (_ :: _) _))) _ _ _); refine spliced_more ?_) | ((with_reducible show wpAny _ _ (spliced (backTo _ (starEach [] _))) _ _ _); refine spliced_none ?_) | with_reducible refine wpAny_IfExp ?_) | (dsimp only; first | ((with_reducible show wpAny _ _ (execs (Stmt.Assign [Expr.Name _ _] _ _ :: _) _) _ _ _); refine rAs ?_) | with_reducible refine rRet ?_ | with_reducible refine rIf ?_ | with_reducible refine wpAny_BinOp ?_ | with_reducible refine rI ?_ | with_reducible refine rS ?_ | ((with_reducible show wpAny _ _ (eval (Expr.Name _ _) _) _ _ _); refine nL (by assumption) rfl ?_) | ((with_reducible show wpAny _ _ (storeName _ _ _) _ _ _); refine rSt (by assumption) ?_; intro _ _) | ((with_reducible show wpAny _ _ (isTrue (Expr.Compare _ [_] [_] _) _ _) _ _ _); refine wpAny_isTrue_Compare1 ?_) | with_reducible refine wpAny_truthy_bool ?_ | with_reducible refine rEq ?_ | ((with_reducible show wpAny _ _ (eval (Expr.Call _ _ [] _) _) _ _ _); refine Call_ ?_) | ((with_reducible show wpAny _ _ (spliced (backTo _ (starEach (_ :: _) _))) _ _ _); refine spliced_more ?_) | ((with_reducible show wpAny _ _ (spliced (backTo _ (starEach [] _))) _ _ _); refine spliced_none ?_) | with_reducible refine wpAny_IfExp ?_))
    refine len_list hl3 (by simp; simp at hlen hvl; (clear hn hlt hLL hf hct hLf; omega)) ?_
    dsimp only
    repeat (first | (first | ((with_reducible show wpAny _ _ (execs (Stmt.Assign [Expr.Name _ _] _ _ :: _) _) _ _ _); refine rAs ?_) | with_reducible refine rRet ?_ | with_reducible refine rIf ?_ | with_reducible refine wpAny_BinOp ?_ | with_reducible refine rI ?_ | with_reducible refine rS ?_ | ((with_reducible show wpAny _ _ (eval (Expr.Name _ _) _) _ _ _); refine nL (by assumption) rfl ?_) | ((with_reducible show wpAny _ _ (storeName _ _ _) _ _ _); refine rSt (by assumption) ?_; intro _ _) | ((with_reducible show wpAny _ _ (isTrue (Expr.Compare _ [_] [_] _) _ _) _ _ _); refine wpAny_isTrue_Compare1 ?_) | with_reducible refine wpAny_truthy_bool ?_ | with_reducible refine rEq ?_ | ((with_reducible show wpAny _ _ (eval (Expr.Call _ _ [] _) _) _ _ _); refine Call_ ?_) | ((with_reducible show wpAny _ _ (spliced (backTo _ (starEach (_ :: _) _))) _ _ _); refine spliced_more ?_) | ((with_reducible show wpAny _ _ (spliced (backTo _ (starEach [] _))) _ _ _); refine spliced_none ?_) | with_reducible refine wpAny_IfExp ?_) | (dsimp only; first | ((with_reducible show wpAny _ _ (execs (Stmt.Assign [Expr.Name _ _] _ _ :: _) _) _ _ _); refine rAs ?_) | with_reducible refine rRet ?_ | with_reducible refine rIf ?_ | with_reducible refine wpAny_BinOp ?_ | with_reducible refine rI ?_ | with_reducible refine rS ?_ | ((with_reducible show wpAny _ _ (eval (Expr.Name _ _) _) _ _ _); refine nL (by assumption) rfl ?_) | ((with_reducible show wpAny _ _ (storeName _ _ _) _ _ _); refine rSt (by assumption) ?_; intro _ _) | ((with_reducible show wpAny _ _ (isTrue (Expr.Compare _ [_] [_] _) _ _) _ _ _); refine wpAny_isTrue_Compare1 ?_) | with_reducible refine wpAny_truthy_bool ?_ | with_reducible refine rEq ?_ | ((with_reducible show wpAny _ _ (eval (Expr.Call _ _ [] _) _) _ _ _); refine Call_ ?_) | ((with_reducible show wpAny _ _ (spliced (backTo _ (starEach (_ :: _) _))) _ _ _); refine spliced_more ?_) | ((with_reducible show wpAny _ _ (spliced (backTo _ (starEach [] _))) _ _ _); refine spliced_none ?_) | with_reducible refine wpAny_IfExp ?_))
    refine ⟨hfo3, ?_⟩
    have e : ((vs.toArray.size : Nat) : Int) = (((d :: ds').length : Nat) : Int) := by simp [hvl]
    rw [e]
    refine inner (ds'.length + 1) 0 (ds'.length + 1) (by (clear hn hlt hLL hf hct hLf hlen hvl e; omega)) (by (clear hn hlt hLL hf hct hLf hlen hvl e; omega)) (by simp) _ _ _ _ _ _ F3.ok Kp.refl (rm₁.le (by simp)) ?_
    intro tk9 h9 tks9 k9 K9
    have F9 := F3.call k9 K9
    have := fun tks => h tk9 h9 tks F9.ok F9.kp
    rw [List.drop_zero, Nat.sub_zero, List.take_of_length_le (by simp)]
    exact this _
end Mine

namespace Mine
abbrev cnt (n x : Nat) : Nat := (Builtin.Int.intBits (x : Int) + n - 1) / n
theorem c_i2d {w : World} {mg mb : Str → Option Value} {g0 : Heap} (G : Gd w mg mb g0) {A : Around} {R : Result → Shared → Prop} {hp : Heap} {gn : Array GenState} {dr : Drawn} {tk0 : Nat} {os : OsState} (k : OK g0 hp) {x n : Nat} {tx tk : Tok} (rm : Rm A (cnt n x + 10))
  (hn0 : 0 < n) (hn : n ≤ 1000) (hc : cnt n x ≤ 1000)
 (h : ∀ l vs h' tks, OK g0 h' → Kp [] hp h' → hp.objs.size ≤ l → h'.IsList l vs.toArray → IntsAre vs (digs n (cnt n x) x) → R (.ok (.ret (.ref l))) ⟨h', gn, dr, tks, os⟩) : codeAny (model PP w) A (.call (.ref aI2D) ⟨[.int x tx, .int n tk], []⟩) R ⟨hp, gn, dr, tk0, os⟩ := by
  refine entC (T := []) (n := cnt n x + 9) (binds := [("a", .int x tx), ("n", .int n tk)]) G k rm (k.at0 G rfl) rfl (k.code G rfl) rfl rfl rfl rfl rfl rfl rfl ?_
  intro h₁ tk₁ F hc' rm₁ kk
  generalize hLL : hp.objs.size = L at *
  generalize hcc : cnt n x = c at *
  obtain ⟨o1, e1, d1⟩ := hc' "n" (L + 1) rfl
  obtain ⟨o2, e2, d2⟩ := hc' "a_digits" (L + 2) rfl
  obtain ⟨o3, e3, d3⟩ := hc' "inner" (L + 3) rfl
  have F1 := ((F.add e1 (by (clear hn0 hn hcc hc; omega)) (by simp) (by (clear hn0 hn hLL hcc hc; omega))).add e2 (by (clear hn0 hn hcc hc; omega)) (by simp) (by (clear hn0 hn hLL hcc hc; omega))).add e3 (by (clear hn0 hn hcc hc; omega)) (by simp) (by (clear hn0 hn hLL hcc hc; omega))
  refine rAs ?_
  repeat (first | (first | ((with_reducible show wpAny _ _ (execs (Stmt.Assign [Expr.Name _ _] _ _ :: _) _) _ _ _); refine rAs ?_) | with_reducible refine rRet ?_ | with_reducible refine rIf ?_ | with_reducible refine wpAny_BinOp ?_ | with_reducible refine rI ?_ | with_reducible refine rS ?_ | ((with_reducible show wpAny _ _ (eval (Expr.Name _ _) _) _ _ _); refine nL (by assumption) rfl ?_) | ((with_reducible show wpAny _ _ (storeName _ _ _) _ _ _); refine rSt (by assumption) ?_; intro _ _) | ((with_reducible show wpAny _ _ (isTrue (Expr.Compare _ [_] [_] _) _ _) _ _ _); refine wpAny_isTrue_Compare1 ?_) | with_reducible refine wpAny_truthy_bool ?_ | with_reducible refine rEq ?_ | ((with_reducible show wpAny _ _ (eval (Expr.Call _ _ [] _) _) _ _ _); refine Call_ ?_) | ((with_reducible show wpAny _ _ (spliced (backTo _ (starEach (_ :: _) _))) _ _ _); refine spliced_more ?_) | ((with_reducible show wpAny _ _ (spliced (backTo _ (starEach [] _))) _ _ _); refine spliced_none ?_) | with_reducible refine wpAny_IfExp ?_) | (dsimp only; first | ((with_reducible show wpAny _ _ (execs (Stmt.Assign [Expr.Name _ _] _ _ :: _) _) _ _ _); refine rAs ?_) | with_reducible refine rRet ?_ | with_reducible refine rIf ?_ | with_reducible refine wpAny_BinOp ?_ | with_reducible refine rI ?_ | with_reducible refine rS ?_ | ((with_reducible show wpAny _ _ (eval (Expr.Name _ _) _) _ _ _); refine nL (by assumption) rfl ?_) | ((with_reducible show wpAny _ _ (storeName _ _ _) _ _ _); refine rSt (by assumption) ?_; intro _ _) | ((with_reducible show wpAny _ _ (isTrue (Expr.Compare _ [_] [_] _) _ _) _ _ _); refine wpAny_isTrue_Compare1 ?_) | with_reducible refine wpAny_truthy_bool ?_ | with_reducible refine rEq ?_ | ((with_reducible show wpAny _ _ (eval (Expr.Call _ _ [] _) _) _ _ _); refine Call_ ?_) | ((with_reducible show wpAny _ _ (spliced (backTo _ (starEach (_ :: _) _))) _ _ _); refine spliced_more ?_) | ((with_reducible show wpAny _ _ (spliced (backTo _ (starEach [] _))) _ _ _); refine spliced_none ?_) | with_reducible refine wpAny_IfExp ?_))
  refine rList ?_
  repeat (first | (first | ((with_reducible show wpAny _ _ (execs (Stmt.Assign [Expr.Name _ _] _ _ :: _) _) _ _ _); refine rAs ?_) | with_reducible refine rRet ?_ | with_reducible refine rIf ?_ | with_reducible refine wpAny_BinOp ?_ | with_reducible refine rI ?_ | with_reducible refine rS ?_ | ((with_reducible show wpAny _ _ (eval (Expr.Name _ _) _) _ _ _); refine nL (by assumption) rfl ?_) | ((with_reducible show wpAny _ _ (storeName _ _ _) _ _ _); refine rSt (by assumption) ?_; intro _ _) | ((with_reducible show wpAny _ _ (isTrue (Expr.Compare _ [_] [_] _) _ _) _ _ _); refine wpAny_isTrue_Compare1 ?_) | with_reducible refine wpAny_truthy_bool ?_ | with_reducible refine rEq ?_ | ((with_reducible show wpAny _ _ (eval (Expr.Call _ _ [] _) _) _ _ _); refine Call_ ?_) | ((with_reducible show wpAny _ _ (spliced (backTo _ (starEach (_ :: _) _))) _ _ _); refine spliced_more ?_) | ((with_reducible show wpAny _ _ (spliced (backTo _ (starEach [] _))) _ _ _); refine spliced_none ?_) | with_reducible refine wpAny_IfExp ?_) | (dsimp only; first | ((with_reducible show wpAny _ _ (execs (Stmt.Assign [Expr.Name _ _] _ _ :: _) _) _ _ _); refine rAs ?_) | with_reducible refine rRet ?_ | with_reducible refine rIf ?_ | with_reducible refine wpAny_BinOp ?_ | with_reducible refine rI ?_ | with_reducible refine rS ?_ | ((with_reducible show wpAny _ _ (eval (Expr.Name _ _) _) _ _ _); refine nL (by assumption) rfl ?_) | ((with_reducible show wpAny _ _ (storeName _ _ _) _ _ _); refine rSt (by assumption) ?_; intro _ _) | ((with_reducible show wpAny _ _ (isTrue (Expr.Compare _ [_] [_] _) _ _) _ _ _); refine wpAny_isTrue_Compare1 ?_) | with_reducible refine wpAny_truthy_bool ?_ | with_reducible refine rEq ?_ | ((with_reducible show wpAny _ _ (eval (Expr.Call _ _ [] _) _) _ _ _); refine Call_ ?_) | ((with_reducible show wpAny _ _ (spliced (backTo _ (starEach (_ :: _) _))) _ _ _); refine spliced_more ?_) | ((with_reducible show wpAny _ _ (spliced (backTo _ (starEach [] _))) _ _ _); refine spliced_none ?_) | with_reducible refine wpAny_IfExp ?_))
  refine rNewL ?_ (by simp [sizeLine])
  have F2 := F1.psh { cls := .type "list", data := .seq [Value.int 0 tk₁].toArray }
  repeat (first | (first | ((with_reducible show wpAny _ _ (execs (Stmt.Assign [Expr.Name _ _] _ _ :: _) _) _ _ _); refine rAs ?_) | with_reducible refine rRet ?_ | with_reducible refine rIf ?_ | with_reducible refine wpAny_BinOp ?_ | with_reducible refine rI ?_ | with_reducible refine rS ?_ | ((with_reducible show wpAny _ _ (eval (Expr.Name _ _) _) _ _ _); refine nL (by assumption) rfl ?_) | ((with_reducible show wpAny _ _ (storeName _ _ _) _ _ _); refine rSt (by assumption) ?_; intro _ _) | ((with_reducible show wpAny _ _ (isTrue (Expr.Compare _ [_] [_] _) _ _) _ _ _); refine wpAny_isTrue_Compare1 ?_) | with_reducible refine wpAny_truthy_bool ?_ | with_reducible refine rEq ?_ | ((with_reducible show wpAny _ _ (eval (Expr.Call _ _ [] _) _) _ _ _); refine Call_ ?_) | ((with_reducible show wpAny _ _ (spliced (backTo _ (starEach (_ :: _) _))) _ _ _); refine spliced_more ?_) | ((with_reducible show wpAny _ _ (spliced (backTo _ (starEach [] _))) _ _ _); refine spliced_none ?_) | with_reducible refine wpAny_IfExp ?_) | (dsimp only; first | ((with_reducible show wpAny _ _ (execs (Stmt.Assign [Expr.Name _ _] _ _ :: _) _) _ _ _); refine rAs ?_) | with_reducible refine rRet ?_ | with_reducible refine rIf ?_ | with_reducible refine wpAny_BinOp ?_ | with_reducible refine rI ?_ | with_reducible refine rS ?_ | ((with_reducible show wpAny _ _ (eval (Expr.Name _ _) _) _ _ _); refine nL (by assumption) rfl ?_) | ((with_reducible show wpAny _ _ (storeName _ _ _) _ _ _); refine rSt (by assumption) ?_; intro _ _) | ((with_reducible show wpAny _ _ (isTrue (Expr.Compare _ [_] [_] _) _ _) _ _ _); refine wpAny_isTrue_Compare1 ?_) | with_reducible refine wpAny_truthy_bool ?_ | with_reducible refine rEq ?_ | ((with_reducible show wpAny _ _ (eval (Expr.Call _ _ [] _) _) _ _ _); refine Call_ ?_) | ((with_reducible show wpAny _ _ (spliced (backTo _ (starEach (_ :: _) _))) _ _ _); refine spliced_more ?_) | ((with_reducible show wpAny _ _ (spliced (backTo _ (starEach [] _))) _ _ _); refine spliced_none ?_) | with_reducible refine wpAny_IfExp ?_))
  refine rM ?_
  repeat (first | (first | ((with_reducible show wpAny _ _ (execs (Stmt.Assign [Expr.Name _ _] _ _ :: _) _) _ _ _); refine rAs ?_) | with_reducible refine rRet ?_ | with_reducible refine rIf ?_ | with_reducible refine wpAny_BinOp ?_ | with_reducible refine rI ?_ | with_reducible refine rS ?_ | ((with_reducible show wpAny _ _ (eval (Expr.Name _ _) _) _ _ _); refine nL (by assumption) rfl ?_) | ((with_reducible show wpAny _ _ (storeName _ _ _) _ _ _); refine rSt (by assumption) ?_; intro _ _) | ((with_reducible show wpAny _ _ (isTrue (Expr.Compare _ [_] [_] _) _ _) _ _ _); refine wpAny_isTrue_Compare1 ?_) | with_reducible refine wpAny_truthy_bool ?_ | with_reducible refine rEq ?_ | ((with_reducible show wpAny _ _ (eval (Expr.Call _ _ [] _) _) _ _ _); refine Call_ ?_) | ((with_reducible show wpAny _ _ (spliced (backTo _ (starEach (_ :: _) _))) _ _ _); refine spliced_more ?_) | ((with_reducible show wpAny _ _ (spliced (backTo _ (starEach [] _))) _ _ _); refine spliced_none ?_) | with_reducible refine wpAny_IfExp ?_) | (dsimp only; first | ((with_reducible show wpAny _ _ (execs (Stmt.Assign [Expr.Name _ _] _ _ :: _) _) _ _ _); refine rAs ?_) | with_reducible refine rRet ?_ | with_reducible refine rIf ?_ | with_reducible refine wpAny_BinOp ?_ | with_reducible refine rI ?_ | with_reducible refine rS ?_ | ((with_reducible show wpAny _ _ (eval (Expr.Name _ _) _) _ _ _); refine nL (by assumption) rfl ?_) | ((with_reducible show wpAny _ _ (storeName _ _ _) _ _ _); refine rSt (by assumption) ?_; intro _ _) | ((with_reducible show wpAny _ _ (isTrue (Expr.Compare _ [_] [_] _) _ _) _ _ _); refine wpAny_isTrue_Compare1 ?_) | with_reducible refine wpAny_truthy_bool ?_ | with_reducible refine rEq ?_ | ((with_reducible show wpAny _ _ (eval (Expr.Call _ _ [] _) _) _ _ _); refine Call_ ?_) | ((with_reducible show wpAny _ _ (spliced (backTo _ (starEach (_ :: _) _))) _ _ _); refine spliced_more ?_) | ((with_reducible show wpAny _ _ (spliced (backTo _ (starEach [] _))) _ _ _); refine spliced_none ?_) | with_reducible refine wpAny_IfExp ?_))
  refine rBL ?_
  refine rCM0 ?_
  refine rBL' ?_
  repeat (first | (first | ((with_reducible show wpAny _ _ (execs (Stmt.Assign [Expr.Name _ _] _ _ :: _) _) _ _ _); refine rAs ?_) | with_reducible refine rRet ?_ | with_reducible refine rIf ?_ | with_reducible refine wpAny_BinOp ?_ | with_reducible refine rI ?_ | with_reducible refine rS ?_ | ((with_reducible show wpAny _ _ (eval (Expr.Name _ _) _) _ _ _); refine nL (by assumption) rfl ?_) | ((with_reducible show wpAny _ _ (storeName _ _ _) _ _ _); refine rSt (by assumption) ?_; intro _ _) | ((with_reducible show wpAny _ _ (isTrue (Expr.Compare _ [_] [_] _) _ _) _ _ _); refine wpAny_isTrue_Compare1 ?_) | with_reducible refine wpAny_truthy_bool ?_ | with_reducible refine rEq ?_ | ((with_reducible show wpAny _ _ (eval (Expr.Call _ _ [] _) _) _ _ _); refine Call_ ?_) | ((with_reducible show wpAny _ _ (spliced (backTo _ (starEach (_ :: _) _))) _ _ _); refine spliced_more ?_) | ((with_reducible show wpAny _ _ (spliced (backTo _ (starEach [] _))) _ _ _); refine spliced_none ?_) | with_reducible refine wpAny_IfExp ?_) | (dsimp only; first | ((with_reducible show wpAny _ _ (execs (Stmt.Assign [Expr.Name _ _] _ _ :: _) _) _ _ _); refine rAs ?_) | with_reducible refine rRet ?_ | with_reducible refine rIf ?_ | with_reducible refine wpAny_BinOp ?_ | with_reducible refine rI ?_ | with_reducible refine rS ?_ | ((with_reducible show wpAny _ _ (eval (Expr.Name _ _) _) _ _ _); refine nL (by assumption) rfl ?_) | ((with_reducible show wpAny _ _ (storeName _ _ _) _ _ _); refine rSt (by assumption) ?_; intro _ _) | ((with_reducible show wpAny _ _ (isTrue (Expr.Compare _ [_] [_] _) _ _) _ _ _); refine wpAny_isTrue_Compare1 ?_) | with_reducible refine wpAny_truthy_bool ?_ | with_reducible refine rEq ?_ | ((with_reducible show wpAny _ _ (eval (Expr.Call _ _ [] _) _) _ _ _); refine Call_ ?_) | ((with_reducible show wpAny _ _ (spliced (backTo _ (starEach (_ :: _) _))) _ _ _); refine spliced_more ?_) | ((with_reducible show wpAny _ _ (spliced (backTo _ (starEach [] _))) _ _ _); refine spliced_none ?_) | with_reducible refine wpAny_IfExp ?_))
  refine nC rfl ⟨_, F2.at 3 rfl, d1⟩ ?_
  refine rAdd (Builtin.Int.intBits (x : Int) + n : Nat) (by (clear hn0 hn hLL hcc hc; omega)) ?_
  repeat (first | (first | ((with_reducible show wpAny _ _ (execs (Stmt.Assign [Expr.Name _ _] _ _ :: _) _) _ _ _); refine rAs ?_) | with_reducible refine rRet ?_ | with_reducible refine rIf ?_ | with_reducible refine wpAny_BinOp ?_ | with_reducible refine rI ?_ | with_reducible refine rS ?_ | ((with_reducible show wpAny _ _ (eval (Expr.Name _ _) _) _ _ _); refine nL (by assumption) rfl ?_) | ((with_reducible show wpAny _ _ (storeName _ _ _) _ _ _); refine rSt (by assumption) ?_; intro _ _) | ((with_reducible show wpAny _ _ (isTrue (Expr.Compare _ [_] [_] _) _ _) _ _ _); refine wpAny_isTrue_Compare1 ?_) | with_reducible refine wpAny_truthy_bool ?_ | with_reducible refine rEq ?_ | ((with_reducible show wpAny _ _ (eval (Expr.Call _ _ [] _) _) _ _ _); refine Call_ ?_) | ((with_reducible show wpAny _ _ (spliced (backTo _ (starEach (_ :: _) _))) _ _ _); refine spliced_more ?_) | ((with_reducible show wpAny _ _ (spliced (backTo _ (starEach [] _))) _ _ _); refine spliced_none ?_) | with_reducible refine wpAny_IfExp ?_) | (dsimp only; first | ((with_reducible show wpAny _ _ (execs (Stmt.Assign [Expr.Name _ _] _ _ :: _) _) _ _ _); refine rAs ?_) | with_reducible refine rRet ?_ | with_reducible refine rIf ?_ | with_reducible refine wpAny_BinOp ?_ | with_reducible refine rI ?_ | with_reducible refine rS ?_ | ((with_reducible show wpAny _ _ (eval (Expr.Name _ _) _) _ _ _); refine nL (by assumption) rfl ?_) | ((with_reducible show wpAny _ _ (storeName _ _ _) _ _ _); refine rSt (by assumption) ?_; intro _ _) | ((with_reducible show wpAny _ _ (isTrue (Expr.Compare _ [_] [_] _) _ _) _ _ _); refine wpAny_isTrue_Compare1 ?_) | with_reducible refine wpAny_truthy_bool ?_ | with_reducible refine rEq ?_ | ((with_reducible show wpAny _ _ (eval (Expr.Call _ _ [] _) _) _ _ _); refine Call_ ?_) | ((with_reducible show wpAny _ _ (spliced (backTo _ (starEach (_ :: _) _))) _ _ _); refine spliced_more ?_) | ((with_reducible show wpAny _ _ (spliced (backTo _ (starEach [] _))) _ _ _); refine spliced_none ?_) | with_reducible refine wpAny_IfExp ?_))
  refine rSub (Builtin.Int.intBits (x : Int) + n - 1 : Nat) (by (clear hLL hcc hc; omega)) ?_
  refine nC rfl ⟨_, F2.at 3 rfl, d1⟩ ?_
  refine rFdiv (c : Nat) (by rw [fdivN]; exact congrArg _ hcc) (by (clear hLL hcc hc; omega)) (by rw [Int.natAbs_natCast]; exact log2_le (k := 10) (by (clear hLL hcc hc; omega)) (by decide)) ?_
  refine rMulL1 c (F2.at 0 rfl) (by (clear hn0 hn hLL; omega)) ?_
  have F3 := F2.psh { cls := .type "list", data := .seq (List.replicate c (Value.int 0 tk₁)).toArray }
  have hla0 : L + 4 ≤ (h₁.push { cls := .type "list", data := .seq [Value.int 0 tk₁].toArray }).objs.size := by
    rw [Heap.size_push]; exact Nat.le_succ_of_le (Heap.lt_size e3)
  generalize hla : (h₁.push { cls := .type "list", data := .seq [Value.int 0 tk₁].toArray }).objs.size = la at *
  refine rSC F3 3 rfl rfl d2 ?_
  intro h₃ o2' d2' S3 F4
  refine rDef rfl rfl rfl ?_
  refine rFn G F4.ok (.inl ⟨rfl, rfl, rfl⟩) rfl G.h1 (by decide) rfl rfl rfl ?_
  intro f doc pm cc ctv h₄ tk₄ k₄ K₄ hf hct hcr hfo
  have hLf : L ≤ f := Nat.le_trans (hLL ▸ F4.gsz) hf
  have hlf : la < f := Nat.lt_of_lt_of_le (Heap.lt_size (F4.at 0 rfl)) hf
  have F5 := (F4.call k₄ K₄).add hfo (Nat.le_trans F4.gsz hf) (F4.fresh hf).1 (F4.fresh hf).2
  refine rSC F5 3 rfl rfl d3 ?_
  intro h₅ o3' d3' S5 F6
  have hcr5 : h₅.CodeRec (.ref cc) qI2D := CodeRec.same hcr (by decide) S5 (fun o e => by rw [F5.at 3 rfl] at e; cases e; exact cell_nc d3)
  have hfo5 := F6.at 0 rfl
  have hl5 := F6.at 1 rfl
  have hc3 : h₅.IsCell (L + 3) (some (.ref f)) := ⟨_, F6.at 3 rfl, d3'⟩
  have hc2 : h₅.IsCell (L + 2) (some (.ref la)) := ⟨_, F6.at 4 rfl, d2'⟩
  have hc1 : h₅.IsCell (L + 1) (some (.int n tk)) := ⟨_, F6.at 5 rfl, d1⟩
  have nt : ∀ a : Addr, L ≤ a → a ∉ tabs := fun a ha => k.nt (Nat.le_trans k.sz (by rw [hLL]; exact ha))
  have n1 : ∀ a : Addr, @Ne Nat a la → a ∉ [la] := fun a ha q => ha (List.mem_singleton.mp q)
  have inner : ∀ (j Lo Hi y : Nat), Hi - Lo ≤ j → Lo < Hi → Hi ≤ c → y < 2 ^ (n * (Hi - Lo)) → ∀ (A' : Around) (R' : Result → Shared → Prop) (hp' : Heap) (tk' : Nat) (t0 t1 t2 : Tok) (ws : List Value) (es : List Int), OK g0 hp' → Kp [la] h₅ hp' →
      hp'.IsList la ws.toArray → IntsAre ws es → es.length = c → Rm A' (j + 1) →
      (∀ h' tks ws', OK g0 h' → Kp [la] hp' h' → h'.IsList la ws'.toArray → IntsAre ws' (es.take Lo ++ digs n (Hi - Lo) y ++ es.drop Hi) → R' (.ok (.ret .none)) ⟨h', gn, dr, tks, os⟩) →
      codeAny (model PP w) A' (.call (.ref f) ⟨[.int y t0, .int Lo t1, .int Hi t2], []⟩) R' ⟨hp', gn, dr, tk', os⟩ := by
    intro j
    induction j with
    | zero => intro Lo Hi y h1 h2; (clear hn0 hn hLL hcc hc hla hla0 hf hct hLf hlf; omega)
    | succ j ih =>
      intro Lo Hi y h1 h2 h3 hy A' R' hp' tk' t0 t1 t2 ws es k' K' hl' hi' hes rm' hR
      refine ent (T := [la]) (n := j + 1) (binds := [("x", .int y t0), ("L", .int Lo t1), ("R", .int Hi t2)]) G k' rm' (K'.kp _ _ hfo5 (nt _ hLf) (n1 _ (Nat.ne_of_gt hlf))) rfl (K'.codeRec hcr5 hct (n1 _ (CodeRec.ne (by decide) hcr5 hl5 (list_nc rfl)))) rfl rfl rfl rfl rfl rfl rfl ?_
      intro h6 tk6 F7 rm7 kk7
      obtain ⟨ol, el, cl, en, dl⟩ := hl'
      have hlt : la < hp'.objs.size := Heap.lt_size el
      have F8 := F7.addT (kk7 _ _ el) (List.mem_singleton.mpr rfl) (Nat.le_trans k.sz (by rw [hLL]; (clear hn0 hn hLL hcc hc hla hf hct hLf hlf h1 h2 h3 hy hes hlt; omega))) (by simp) (Nat.ne_of_lt hlt)
      have K8 := K'.trans F8.kp
      have cn := K8.cell hc1 (nt _ (by (clear hn0 hn hLL hcc hc hla hla0 hf hct hLf hlf h1 h2 h3 hy hes hlt; omega))) (n1 _ (by (clear hn0 hn hLL hcc hc hla hf hct hLf hlf h1 h2 h3 hy hes hlt; omega)))
      have cf := K8.cell hc3 (nt _ (by (clear hn0 hn hLL hcc hc hla hla0 hf hct hLf hlf h1 h2 h3 hy hes hlt; omega))) (n1 _ (by (clear hn0 hn hLL hcc hc hla hf hct hLf hlf h1 h2 h3 hy hes hlt; omega)))
      have cd := K8.cell hc2 (nt _ (by (clear hn0 hn hLL hcc hc hla hla0 hf hct hLf hlf h1 h2 h3 hy hes hlt; omega))) (n1 _ (by (clear hn0 hn hLL hcc hc hla hf hct hLf hlf h1 h2 h3 hy hes hlt; omega)))
      repeat (first | (first | ((with_reducible show wpAny _ _ (execs (Stmt.Assign [Expr.Name _ _] _ _ :: _) _) _ _ _); refine rAs ?_) | with_reducible refine rRet ?_ | with_reducible refine rIf ?_ | with_reducible refine wpAny_BinOp ?_ | with_reducible refine rI ?_ | with_reducible refine rS ?_ | ((with_reducible show wpAny _ _ (eval (Expr.Name _ _) _) _ _ _); refine nL (by assumption) rfl ?_) | ((with_reducible show wpAny _ _ (storeName _ _ _) _ _ _); refine rSt (by assumption) ?_; intro _ _) | ((with_reducible show wpAny _ _ (isTrue (Expr.Compare _ [_] [_] _) _ _) _ _ _); refine wpAny_isTrue_Compare1 ?_) | with_reducible refine wpAny_truthy_bool ?_ | with_reducible refine rEq ?_ | ((with_reducible show wpAny _ _ (eval (Expr.Call _ _ [] _) _) _ _ _); refine Call_ ?_) | ((with_reducible show wpAny _ _ (spliced (backTo _ (starEach (_ :: _) _))) _ _ _); refine spliced_more ?_) | ((with_reducible show wpAny _ _ (spliced (backTo _ (starEach [] _))) _ _ _); refine spliced_none ?_) | with_reducible refine wpAny_IfExp ?_) | (dsimp only; first | ((with_reducible show wpAny _ _ (execs (Stmt.Assign [Expr.Name _ _] _ _ :: _) _) _ _ _); refine rAs ?_) | with_reducible refine rRet ?_ | with_reducible refine rIf ?_ | with_reducible refine wpAny_BinOp ?_ | with_reducible refine rI ?_ | with_reducible refine rS ?_ | ((with_reducible show wpAny _ _ (eval (Expr.Name _ _) _) _ _ _); refine nL (by assumption) rfl ?_) | ((with_reducible show wpAny _ _ (storeName _ _ _) _ _ _); refine rSt (by assumption) ?_; intro _ _) | ((with_reducible show wpAny _ _ (isTrue (Expr.Compare _ [_] [_] _) _ _) _ _ _); refine wpAny_isTrue_Compare1 ?_) | with_reducible refine wpAny_truthy_bool ?_ | with_reducible refine rEq ?_ | ((with_reducible show wpAny _ _ (eval (Expr.Call _ _ [] _) _) _ _ _); refine Call_ ?_) | ((with_reducible show wpAny _ _ (spliced (backTo _ (starEach (_ :: _) _))) _ _ _); refine spliced_more ?_) | ((with_reducible show wpAny _ _ (spliced (backTo _ (starEach [] _))) _ _ _); refine spliced_none ?_) | with_reducible refine wpAny_IfExp ?_))
      refine rAdd (Lo + 1 : Nat) (by (clear hn0 hn hLL hcc hc hla hla0 hf hct hLf hlf h1 h2 h3 hy hes hlt; omega)) ?_
      repeat (first | (first | ((with_reducible show wpAny _ _ (execs (Stmt.Assign [Expr.Name _ _] _ _ :: _) _) _ _ _); refine rAs ?_) | with_reducible refine rRet ?_ | with_reducible refine rIf ?_ | with_reducible refine wpAny_BinOp ?_ | with_reducible refine rI ?_ | with_reducible refine rS ?_ | ((with_reducible show wpAny _ _ (eval (Expr.Name _ _) _) _ _ _); refine nL (by assumption) rfl ?_) | ((with_reducible show wpAny _ _ (storeName _ _ _) _ _ _); refine rSt (by assumption) ?_; intro _ _) | ((with_reducible show wpAny _ _ (isTrue (Expr.Compare _ [_] [_] _) _ _) _ _ _); refine wpAny_isTrue_Compare1 ?_) | with_reducible refine wpAny_truthy_bool ?_ | with_reducible refine rEq ?_ | ((with_reducible show wpAny _ _ (eval (Expr.Call _ _ [] _) _) _ _ _); refine Call_ ?_) | ((with_reducible show wpAny _ _ (spliced (backTo _ (starEach (_ :: _) _))) _ _ _); refine spliced_more ?_) | ((with_reducible show wpAny _ _ (spliced (backTo _ (starEach [] _))) _ _ _); refine spliced_none ?_) | with_reducible refine wpAny_IfExp ?_) | (dsimp only; first | ((with_reducible show wpAny _ _ (execs (Stmt.Assign [Expr.Name _ _] _ _ :: _) _) _ _ _); refine rAs ?_) | with_reducible refine rRet ?_ | with_reducible refine rIf ?_ | with_reducible refine wpAny_BinOp ?_ | with_reducible refine rI ?_ | with_reducible refine rS ?_ | ((with_reducible show wpAny _ _ (eval (Expr.Name _ _) _) _ _ _); refine nL (by assumption) rfl ?_) | ((with_reducible show wpAny _ _ (storeName _ _ _) _ _ _); refine rSt (by assumption) ?_; intro _ _) | ((with_reducible show wpAny _ _ (isTrue (Expr.Compare _ [_] [_] _) _ _) _ _ _); refine wpAny_isTrue_Compare1 ?_) | with_reducible refine wpAny_truthy_bool ?_ | with_reducible refine rEq ?_ | ((with_reducible show wpAny _ _ (eval (Expr.Call _ _ [] _) _) _ _ _); refine Call_ ?_) | ((with_reducible show wpAny _ _ (spliced (backTo _ (starEach (_ :: _) _))) _ _ _); refine spliced_more ?_) | ((with_reducible show wpAny _ _ (spliced (backTo _ (starEach [] _))) _ _ _); refine spliced_none ?_) | with_reducible refine wpAny_IfExp ?_))
      by_cases hq : Lo + 1 = Hi
      · refine iteT (by simp; (clear hn0 hn hLL hcc hc hla hla0 hf hct hLf hlf h1 h2 h3 hy hes hlt; omega)) ?_
        refine rAsub ?_
        repeat (first | (first | ((with_reducible show wpAny _ _ (execs (Stmt.Assign [Expr.Name _ _] _ _ :: _) _) _ _ _); refine rAs ?_) | with_reducible refine rRet ?_ | with_reducible refine rIf ?_ | with_reducible refine wpAny_BinOp ?_ | with_reducible refine rI ?_ | with_reducible refine rS ?_ | ((with_reducible show wpAny _ _ (eval (Expr.Name _ _) _) _ _ _); refine nL (by assumption) rfl ?_) | ((with_reducible show wpAny _ _ (storeName _ _ _) _ _ _); refine rSt (by assumption) ?_; intro _ _) | ((with_reducible show wpAny _ _ (isTrue (Expr.Compare _ [_] [_] _) _ _) _ _ _); refine wpAny_isTrue_Compare1 ?_) | with_reducible refine wpAny_truthy_bool ?_ | with_reducible refine rEq ?_ | ((with_reducible show wpAny _ _ (eval (Expr.Call _ _ [] _) _) _ _ _); refine Call_ ?_) | ((with_reducible show wpAny _ _ (spliced (backTo _ (starEach (_ :: _) _))) _ _ _); refine spliced_more ?_) | ((with_reducible show wpAny _ _ (spliced (backTo _ (starEach [] _))) _ _ _); refine spliced_none ?_) | with_reducible refine wpAny_IfExp ?_) | (dsimp only; first | ((with_reducible show wpAny _ _ (execs (Stmt.Assign [Expr.Name _ _] _ _ :: _) _) _ _ _); refine rAs ?_) | with_reducible refine rRet ?_ | with_reducible refine rIf ?_ | with_reducible refine wpAny_BinOp ?_ | with_reducible refine rI ?_ | with_reducible refine rS ?_ | ((with_reducible show wpAny _ _ (eval (Expr.Name _ _) _) _ _ _); refine nL (by assumption) rfl ?_) | ((with_reducible show wpAny _ _ (storeName _ _ _) _ _ _); refine rSt (by assumption) ?_; intro _ _) | ((with_reducible show wpAny _ _ (isTrue (Expr.Compare _ [_] [_] _) _ _) _ _ _); refine wpAny_isTrue_Compare1 ?_) | with_reducible refine wpAny_truthy_bool ?_ | with_reducible refine rEq ?_ | ((with_reducible show wpAny _ _ (eval (Expr.Call _ _ [] _) _) _ _ _); refine Call_ ?_) | ((with_reducible show wpAny _ _ (spliced (backTo _ (starEach (_ :: _) _))) _ _ _); refine spliced_more ?_) | ((with_reducible show wpAny _ _ (spliced (backTo _ (starEach [] _))) _ _ _); refine spliced_none ?_) | with_reducible refine wpAny_IfExp ?_))
        refine nF rfl cd ?_
        repeat (first | (first | ((with_reducible show wpAny _ _ (execs (Stmt.Assign [Expr.Name _ _] _ _ :: _) _) _ _ _); refine rAs ?_) | with_reducible refine rRet ?_ | with_reducible refine rIf ?_ | with_reducible refine wpAny_BinOp ?_ | with_reducible refine rI ?_ | with_reducible refine rS ?_ | ((with_reducible show wpAny _ _ (eval (Expr.Name _ _) _) _ _ _); refine nL (by assumption) rfl ?_) | ((with_reducible show wpAny _ _ (storeName _ _ _) _ _ _); refine rSt (by assumption) ?_; intro _ _) | ((with_reducible show wpAny _ _ (isTrue (Expr.Compare _ [_] [_] _) _ _) _ _ _); refine wpAny_isTrue_Compare1 ?_) | with_reducible refine wpAny_truthy_bool ?_ | with_reducible refine rEq ?_ | ((with_reducible show wpAny _ _ (eval (Expr.Call _ _ [] _) _) _ _ _); refine Call_ ?_) | ((with_reducible show wpAny _ _ (spliced (backTo _ (starEach (_ :: _) _))) _ _ _); refine spliced_more ?_) | ((with_reducible show wpAny _ _ (spliced (backTo _ (starEach [] _))) _ _ _); refine spliced_none ?_) | with_reducible refine wpAny_IfExp ?_) | (dsimp only; first | ((with_reducible show wpAny _ _ (execs (Stmt.Assign [Expr.Name _ _] _ _ :: _) _) _ _ _); refine rAs ?_) | with_reducible refine rRet ?_ | with_reducible refine rIf ?_ | with_reducible refine wpAny_BinOp ?_ | with_reducible refine rI ?_ | with_reducible refine rS ?_ | ((with_reducible show wpAny _ _ (eval (Expr.Name _ _) _) _ _ _); refine nL (by assumption) rfl ?_) | ((with_reducible show wpAny _ _ (storeName _ _ _) _ _ _); refine rSt (by assumption) ?_; intro _ _) | ((with_reducible show wpAny _ _ (isTrue (Expr.Compare _ [_] [_] _) _ _) _ _ _); refine wpAny_isTrue_Compare1 ?_) | with_reducible refine wpAny_truthy_bool ?_ | with_reducible refine rEq ?_ | ((with_reducible show wpAny _ _ (eval (Expr.Call _ _ [] _) _) _ _ _); refine Call_ ?_) | ((with_reducible show wpAny _ _ (spliced (backTo _ (starEach (_ :: _) _))) _ _ _); refine spliced_more ?_) | ((with_reducible show wpAny _ _ (spliced (backTo _ (starEach [] _))) _ _ _); refine spliced_none ?_) | with_reducible refine wpAny_IfExp ?_))
        have hws : ws.length = c := by rw [hi'.length, hes]
        refine wpAny_setItem_list ⟨ol, F8.at 0 rfl, cl, en, dl⟩ (by (clear hn0 hn hLL hcc hc hla hla0 hf hct hLf hlf h1 h2 h3 hy hes hlt hq hws; omega)) (by (clear hn0 hn hLL hla hla0 hf hct hLf hlf h1 h2 hy hlt; omega)) (by simp; (clear hn0 hn hLL hcc hc hla hla0 hf hct hLf hlf h1 h2 hy hlt; omega)) ?_
        intro h9 hl9 S9
        refine rRet0 ?_
        obtain ⟨o9, e9, r9⟩ := id hl9
        have F9 := F8.updS 0 rfl (list_nc dl) S9 e9
        have q := fun tks => hR h9 tks (ws.set Lo (.int y t0)) F9.ok F9.kp (by simpa using hl9) (by
          have e1 : Hi - Lo = 1 := by (clear hn0 hn hLL hcc hc hla hla0 hf hct hLf hlf h1 h2 h3 hy hes hlt hws r9; omega)
          have e2 : y % 2 ^ n = y := Nat.mod_eq_of_lt (by rw [e1, Nat.mul_one] at hy; exact hy)
          rw [e1, digs, digs, e2, ← hq, ← take_set_drop es (by (clear hn0 hn hLL hcc hc hla hla0 hf hct hLf hlf h1 h2 hy hlt r9 e1 e2; omega))]
          exact IntsAre.set' hi' Lo y t0)
        exact q _
      · refine iteF (by simp; (clear hn0 hn hLL hcc hc hla hla0 hf hct hLf hlf h1 h2 h3 hy hes hlt; omega)) ?_
        refine nilNext ?_
        repeat (first | (first | ((with_reducible show wpAny _ _ (execs (Stmt.Assign [Expr.Name _ _] _ _ :: _) _) _ _ _); refine rAs ?_) | with_reducible refine rRet ?_ | with_reducible refine rIf ?_ | with_reducible refine wpAny_BinOp ?_ | with_reducible refine rI ?_ | with_reducible refine rS ?_ | ((with_reducible show wpAny _ _ (eval (Expr.Name _ _) _) _ _ _); refine nL (by assumption) rfl ?_) | ((with_reducible show wpAny _ _ (storeName _ _ _) _ _ _); refine rSt (by assumption) ?_; intro _ _) | ((with_reducible show wpAny _ _ (isTrue (Expr.Compare _ [_] [_] _) _ _) _ _ _); refine wpAny_isTrue_Compare1 ?_) | with_reducible refine wpAny_truthy_bool ?_ | with_reducible refine rEq ?_ | ((with_reducible show wpAny _ _ (eval (Expr.Call _ _ [] _) _) _ _ _); refine Call_ ?_) | ((with_reducible show wpAny _ _ (spliced (backTo _ (starEach (_ :: _) _))) _ _ _); refine spliced_more ?_) | ((with_reducible show wpAny _ _ (spliced (backTo _ (starEach [] _))) _ _ _); refine spliced_none ?_) | with_reducible refine wpAny_IfExp ?_) | (dsimp only; first | ((with_reducible show wpAny _ _ (execs (Stmt.Assign [Expr.Name _ _] _ _ :: _) _) _ _ _); refine rAs ?_) | with_reducible refine rRet ?_ | with_reducible refine rIf ?_ | with_reducible refine wpAny_BinOp ?_ | with_reducible refine rI ?_ | with_reducible refine rS ?_ | ((with_reducible show wpAny _ _ (eval (Expr.Name _ _) _) _ _ _); refine nL (by assumption) rfl ?_) | ((with_reducible show wpAny _ _ (storeName _ _ _) _ _ _); refine rSt (by assumption) ?_; intro _ _) | ((with_reducible show wpAny _ _ (isTrue (Expr.Compare _ [_] [_] _) _ _) _ _ _); refine wpAny_isTrue_Compare1 ?_) | with_reducible refine wpAny_truthy_bool ?_ | with_reducible refine rEq ?_ | ((with_reducible show wpAny _ _ (eval (Expr.Call _ _ [] _) _) _ _ _); refine Call_ ?_) | ((with_reducible show wpAny _ _ (spliced (backTo _ (starEach (_ :: _) _))) _ _ _); refine spliced_more ?_) | ((with_reducible show wpAny _ _ (spliced (backTo _ (starEach [] _))) _ _ _); refine spliced_none ?_) | with_reducible refine wpAny_IfExp ?_))
        refine rAdd (Lo + Hi : Nat) (by (clear hn0 hn hLL hcc hc hla hla0 hf hct hLf hlf h1 h2 h3 hy hes hlt hq; omega)) ?_
        repeat (first | (first | ((with_reducible show wpAny _ _ (execs (Stmt.Assign [Expr.Name _ _] _ _ :: _) _) _ _ _); refine rAs ?_) | with_reducible refine rRet ?_ | with_reducible refine rIf ?_ | with_reducible refine wpAny_BinOp ?_ | with_reducible refine rI ?_ | with_reducible refine rS ?_ | ((with_reducible show wpAny _ _ (eval (Expr.Name _ _) _) _ _ _); refine nL (by assumption) rfl ?_) | ((with_reducible show wpAny _ _ (storeName _ _ _) _ _ _); refine rSt (by assumption) ?_; intro _ _) | ((with_reducible show wpAny _ _ (isTrue (Expr.Compare _ [_] [_] _) _ _) _ _ _); refine wpAny_isTrue_Compare1 ?_) | with_reducible refine wpAny_truthy_bool ?_ | with_reducible refine rEq ?_ | ((with_reducible show wpAny _ _ (eval (Expr.Call _ _ [] _) _) _ _ _); refine Call_ ?_) | ((with_reducible show wpAny _ _ (spliced (backTo _ (starEach (_ :: _) _))) _ _ _); refine spliced_more ?_) | ((with_reducible show wpAny _ _ (spliced (backTo _ (starEach [] _))) _ _ _); refine spliced_none ?_) | with_reducible refine wpAny_IfExp ?_) | (dsimp only; first | ((with_reducible show wpAny _ _ (execs (Stmt.Assign [Expr.Name _ _] _ _ :: _) _) _ _ _); refine rAs ?_) | with_reducible refine rRet ?_ | with_reducible refine rIf ?_ | with_reducible refine wpAny_BinOp ?_ | with_reducible refine rI ?_ | with_reducible refine rS ?_ | ((with_reducible show wpAny _ _ (eval (Expr.Name _ _) _) _ _ _); refine nL (by assumption) rfl ?_) | ((with_reducible show wpAny _ _ (storeName _ _ _) _ _ _); refine rSt (by assumption) ?_; intro _ _) | ((with_reducible show wpAny _ _ (isTrue (Expr.Compare _ [_] [_] _) _ _) _ _ _); refine wpAny_isTrue_Compare1 ?_) | with_reducible refine wpAny_truthy_bool ?_ | with_reducible refine rEq ?_ | ((with_reducible show wpAny _ _ (eval (Expr.Call _ _ [] _) _) _ _ _); refine Call_ ?_) | ((with_reducible show wpAny _ _ (spliced (backTo _ (starEach (_ :: _) _))) _ _ _); refine spliced_more ?_) | ((with_reducible show wpAny _ _ (spliced (backTo _ (starEach [] _))) _ _ _); refine spliced_none ?_) | with_reducible refine wpAny_IfExp ?_))
        refine rRsh1 (Lo + Hi) rfl ?_
        generalize hmid : (Lo + Hi) / 2 = mid
        have m12 : Lo < mid ∧ mid < Hi := by (clear hn0 hn hLL hcc hc hla hla0 hf hct hLf hlf h1 h3 hy hes hlt; omega)
        obtain ⟨m1, m2⟩ := m12
        have m3 : mid ≤ c := Nat.le_trans (Nat.le_of_lt m2) h3
        have hml : mid - Lo ≤ 1000 := Nat.le_trans (Nat.sub_le _ _) (Nat.le_trans m3 hc)
        have m4 : Hi - mid ≤ 1000 := Nat.le_trans (Nat.sub_le _ _) (Nat.le_trans h3 hc)
        repeat (first | (first | ((with_reducible show wpAny _ _ (execs (Stmt.Assign [Expr.Name _ _] _ _ :: _) _) _ _ _); refine rAs ?_) | with_reducible refine rRet ?_ | with_reducible refine rIf ?_ | with_reducible refine wpAny_BinOp ?_ | with_reducible refine rI ?_ | with_reducible refine rS ?_ | ((with_reducible show wpAny _ _ (eval (Expr.Name _ _) _) _ _ _); refine nL (by assumption) rfl ?_) | ((with_reducible show wpAny _ _ (storeName _ _ _) _ _ _); refine rSt (by assumption) ?_; intro _ _) | ((with_reducible show wpAny _ _ (isTrue (Expr.Compare _ [_] [_] _) _ _) _ _ _); refine wpAny_isTrue_Compare1 ?_) | with_reducible refine wpAny_truthy_bool ?_ | with_reducible refine rEq ?_ | ((with_reducible show wpAny _ _ (eval (Expr.Call _ _ [] _) _) _ _ _); refine Call_ ?_) | ((with_reducible show wpAny _ _ (spliced (backTo _ (starEach (_ :: _) _))) _ _ _); refine spliced_more ?_) | ((with_reducible show wpAny _ _ (spliced (backTo _ (starEach [] _))) _ _ _); refine spliced_none ?_) | with_reducible refine wpAny_IfExp ?_) | (dsimp only; first | ((with_reducible show wpAny _ _ (execs (Stmt.Assign [Expr.Name _ _] _ _ :: _) _) _ _ _); refine rAs ?_) | with_reducible refine rRet ?_ | with_reducible refine rIf ?_ | with_reducible refine wpAny_BinOp ?_ | with_reducible refine rI ?_ | with_reducible refine rS ?_ | ((with_reducible show wpAny _ _ (eval (Expr.Name _ _) _) _ _ _); refine nL (by assumption) rfl ?_) | ((with_reducible show wpAny _ _ (storeName _ _ _) _ _ _); refine rSt (by assumption) ?_; intro _ _) | ((with_reducible show wpAny _ _ (isTrue (Expr.Compare _ [_] [_] _) _ _) _ _ _); refine wpAny_isTrue_Compare1 ?_) | with_reducible refine wpAny_truthy_bool ?_ | with_reducible refine rEq ?_ | ((with_reducible show wpAny _ _ (eval (Expr.Call _ _ [] _) _) _ _ _); refine Call_ ?_) | ((with_reducible show wpAny _ _ (spliced (backTo _ (starEach (_ :: _) _))) _ _ _); refine spliced_more ?_) | ((with_reducible show wpAny _ _ (spliced (backTo _ (starEach [] _))) _ _ _); refine spliced_none ?_) | with_reducible refine wpAny_IfExp ?_))
        refine rSub (mid - Lo : Nat) (Int.natCast_sub (Nat.le_of_lt m1)).symm ?_
        rename_i h9 F9
        have K9 := K'.trans F9.kp
        refine nF rfl (K9.cell hc1 (nt _ (by (clear hn0 hn hLL hcc hc hla hla0 hf hct hLf hlf h1 h2 h3 hy hes hlt hq hmid; omega))) (n1 _ (by (clear hn0 hn hLL hcc hc hla hf hct hLf hlf h1 h2 h3 hy hes hlt hq hmid; omega)))) ?_
        refine rMul ((mid - Lo) * n : Nat) (by rw [Int.natCast_mul]) (.inl (bits_nat (Nat.lt_of_le_of_lt hml (by decide)))) ?_
        generalize hs : (mid - Lo) * n = sh
        repeat (first | (first | ((with_reducible show wpAny _ _ (execs (Stmt.Assign [Expr.Name _ _] _ _ :: _) _) _ _ _); refine rAs ?_) | with_reducible refine rRet ?_ | with_reducible refine rIf ?_ | with_reducible refine wpAny_BinOp ?_ | with_reducible refine rI ?_ | with_reducible refine rS ?_ | ((with_reducible show wpAny _ _ (eval (Expr.Name _ _) _) _ _ _); refine nL (by assumption) rfl ?_) | ((with_reducible show wpAny _ _ (storeName _ _ _) _ _ _); refine rSt (by assumption) ?_; intro _ _) | ((with_reducible show wpAny _ _ (isTrue (Expr.Compare _ [_] [_] _) _ _) _ _ _); refine wpAny_isTrue_Compare1 ?_) | with_reducible refine wpAny_truthy_bool ?_ | with_reducible refine rEq ?_ | ((with_reducible show wpAny _ _ (eval (Expr.Call _ _ [] _) _) _ _ _); refine Call_ ?_) | ((with_reducible show wpAny _ _ (spliced (backTo _ (starEach (_ :: _) _))) _ _ _); refine spliced_more ?_) | ((with_reducible show wpAny _ _ (spliced (backTo _ (starEach [] _))) _ _ _); refine spliced_none ?_) | with_reducible refine wpAny_IfExp ?_) | (dsimp only; first | ((with_reducible show wpAny _ _ (execs (Stmt.Assign [Expr.Name _ _] _ _ :: _) _) _ _ _); refine rAs ?_) | with_reducible refine rRet ?_ | with_reducible refine rIf ?_ | with_reducible refine wpAny_BinOp ?_ | with_reducible refine rI ?_ | with_reducible refine rS ?_ | ((with_reducible show wpAny _ _ (eval (Expr.Name _ _) _) _ _ _); refine nL (by assumption) rfl ?_) | ((with_reducible show wpAny _ _ (storeName _ _ _) _ _ _); refine rSt (by assumption) ?_; intro _ _) | ((with_reducible show wpAny _ _ (isTrue (Expr.Compare _ [_] [_] _) _ _) _ _ _); refine wpAny_isTrue_Compare1 ?_) | with_reducible refine wpAny_truthy_bool ?_ | with_reducible refine rEq ?_ | ((with_reducible show wpAny _ _ (eval (Expr.Call _ _ [] _) _) _ _ _); refine Call_ ?_) | ((with_reducible show wpAny _ _ (spliced (backTo _ (starEach (_ :: _) _))) _ _ _); refine spliced_more ?_) | ((with_reducible show wpAny _ _ (spliced (backTo _ (starEach [] _))) _ _ _); refine spliced_none ?_) | with_reducible refine wpAny_IfExp ?_))
        refine rRsh sh _ rfl (fdivP _ _) ?_
        repeat (first | (first | ((with_reducible show wpAny _ _ (execs (Stmt.Assign [Expr.Name _ _] _ _ :: _) _) _ _ _); refine rAs ?_) | with_reducible refine rRet ?_ | with_reducible refine rIf ?_ | with_reducible refine wpAny_BinOp ?_ | with_reducible refine rI ?_ | with_reducible refine rS ?_ | ((with_reducible show wpAny _ _ (eval (Expr.Name _ _) _) _ _ _); refine nL (by assumption) rfl ?_) | ((with_reducible show wpAny _ _ (storeName _ _ _) _ _ _); refine rSt (by assumption) ?_; intro _ _) | ((with_reducible show wpAny _ _ (isTrue (Expr.Compare _ [_] [_] _) _ _) _ _ _); refine wpAny_isTrue_Compare1 ?_) | with_reducible refine wpAny_truthy_bool ?_ | with_reducible refine rEq ?_ | ((with_reducible show wpAny _ _ (eval (Expr.Call _ _ [] _) _) _ _ _); refine Call_ ?_) | ((with_reducible show wpAny _ _ (spliced (backTo _ (starEach (_ :: _) _))) _ _ _); refine spliced_more ?_) | ((with_reducible show wpAny _ _ (spliced (backTo _ (starEach [] _))) _ _ _); refine spliced_none ?_) | with_reducible refine wpAny_IfExp ?_) | (dsimp only; first | ((with_reducible show wpAny _ _ (execs (Stmt.Assign [Expr.Name _ _] _ _ :: _) _) _ _ _); refine rAs ?_) | with_reducible refine rRet ?_ | with_reducible refine rIf ?_ | with_reducible refine wpAny_BinOp ?_ | with_reducible refine rI ?_ | with_reducible refine rS ?_ | ((with_reducible show wpAny _ _ (eval (Expr.Name _ _) _) _ _ _); refine nL (by assumption) rfl ?_) | ((with_reducible show wpAny _ _ (storeName _ _ _) _ _ _); refine rSt (by assumption) ?_; intro _ _) | ((with_reducible show wpAny _ _ (isTrue (Expr.Compare _ [_] [_] _) _ _) _ _ _); refine wpAny_isTrue_Compare1 ?_) | with_reducible refine wpAny_truthy_bool ?_ | with_reducible refine rEq ?_ | ((with_reducible show wpAny _ _ (eval (Expr.Call _ _ [] _) _) _ _ _); refine Call_ ?_) | ((with_reducible show wpAny _ _ (spliced (backTo _ (starEach (_ :: _) _))) _ _ _); refine spliced_more ?_) | ((with_reducible show wpAny _ _ (spliced (backTo _ (starEach [] _))) _ _ _); refine spliced_none ?_) | with_reducible refine wpAny_IfExp ?_))
        have hbu : y / 2 ^ sh < 2 ^ (n * (Hi - mid)) := by
          rw [Nat.div_lt_iff_lt_mul (Nat.pow_pos (by (clear hn0 hn hLL hcc hc hla hla0 hf hct hLf hlf h1 h2 h3 hy hes hlt hq hmid hs; omega))), ← Nat.pow_add, ← hs, Nat.mul_comm (mid - Lo), ← Nat.mul_add]
          have : Hi - mid + (mid - Lo) = Hi - Lo := (Nat.add_comm _ _).trans (sub3 (Nat.le_of_lt m1) (Nat.le_of_lt m2)).symm
          rw [this]; exact hy
        refine rLsh sh ((y / 2 ^ sh * 2 ^ sh : Nat) : Int) rfl (by simp) rm7.hd ?_ ?_
        · have q1 := bits_nat hbu
          have q2 : n * (Hi - mid) ≤ 1000 * 1000 := Nat.mul_le_mul hn m4
          have q3 : (mid - Lo) * n ≤ 1000 * 1000 := Nat.mul_le_mul hml hn
          (clear hn0 hn hLL hcc hc hla hla0 hf hct hLf hlf h1 h2 h3 hy hes hlt hq hmid hbu; omega)
        refine rXor _ (low_xor y sh) ?_
        repeat (first | (first | ((with_reducible show wpAny _ _ (execs (Stmt.Assign [Expr.Name _ _] _ _ :: _) _) _ _ _); refine rAs ?_) | with_reducible refine rRet ?_ | with_reducible refine rIf ?_ | with_reducible refine wpAny_BinOp ?_ | with_reducible refine rI ?_ | with_reducible refine rS ?_ | ((with_reducible show wpAny _ _ (eval (Expr.Name _ _) _) _ _ _); refine nL (by assumption) rfl ?_) | ((with_reducible show wpAny _ _ (storeName _ _ _) _ _ _); refine rSt (by assumption) ?_; intro _ _) | ((with_reducible show wpAny _ _ (isTrue (Expr.Compare _ [_] [_] _) _ _) _ _ _); refine wpAny_isTrue_Compare1 ?_) | with_reducible refine wpAny_truthy_bool ?_ | with_reducible refine rEq ?_ | ((with_reducible show wpAny _ _ (eval (Expr.Call _ _ [] _) _) _ _ _); refine Call_ ?_) | ((with_reducible show wpAny _ _ (spliced (backTo _ (starEach (_ :: _) _))) _ _ _); refine spliced_more ?_) | ((with_reducible show wpAny _ _ (spliced (backTo _ (starEach [] _))) _ _ _); refine spliced_none ?_) | with_reducible refine wpAny_IfExp ?_) | (dsimp only; first | ((with_reducible show wpAny _ _ (execs (Stmt.Assign [Expr.Name _ _] _ _ :: _) _) _ _ _); refine rAs ?_) | with_reducible refine rRet ?_ | with_reducible refine rIf ?_ | with_reducible refine wpAny_BinOp ?_ | with_reducible refine rI ?_ | with_reducible refine rS ?_ | ((with_reducible show wpAny _ _ (eval (Expr.Name _ _) _) _ _ _); refine nL (by assumption) rfl ?_) | ((with_reducible show wpAny _ _ (storeName _ _ _) _ _ _); refine rSt (by assumption) ?_; intro _ _) | ((with_reducible show wpAny _ _ (isTrue (Expr.Compare _ [_] [_] _) _ _) _ _ _); refine wpAny_isTrue_Compare1 ?_) | with_reducible refine wpAny_truthy_bool ?_ | with_reducible refine rEq ?_ | ((with_reducible show wpAny _ _ (eval (Expr.Call _ _ [] _) _) _ _ _); refine Call_ ?_) | ((with_reducible show wpAny _ _ (spliced (backTo _ (starEach (_ :: _) _))) _ _ _); refine spliced_more ?_) | ((with_reducible show wpAny _ _ (spliced (backTo _ (starEach [] _))) _ _ _); refine spliced_none ?_) | with_reducible refine wpAny_IfExp ?_))
        rename_i h10 F10
        have K10 := K'.trans F10.kp
        refine rEx ?_
        repeat (first | (first | ((with_reducible show wpAny _ _ (execs (Stmt.Assign [Expr.Name _ _] _ _ :: _) _) _ _ _); refine rAs ?_) | with_reducible refine rRet ?_ | with_reducible refine rIf ?_ | with_reducible refine wpAny_BinOp ?_ | with_reducible refine rI ?_ | with_reducible refine rS ?_ | ((with_reducible show wpAny _ _ (eval (Expr.Name _ _) _) _ _ _); refine nL (by assumption) rfl ?_) | ((with_reducible show wpAny _ _ (storeName _ _ _) _ _ _); refine rSt (by assumption) ?_; intro _ _) | ((with_reducible show wpAny _ _ (isTrue (Expr.Compare _ [_] [_] _) _ _) _ _ _); refine wpAny_isTrue_Compare1 ?_) | with_reducible refine wpAny_truthy_bool ?_ | with_reducible refine rEq ?_ | ((with_reducible show wpAny _ _ (eval (Expr.Call _ _ [] _) _) _ _ _); refine Call_ ?_) | ((with_reducible show wpAny _ _ (spliced (backTo _ (starEach (_ :: _) _))) _ _ _); refine spliced_more ?_) | ((with_reducible show wpAny _ _ (spliced (backTo _ (starEach [] _))) _ _ _); refine spliced_none ?_) | with_reducible refine wpAny_IfExp ?_) | (dsimp only; first | ((with_reducible show wpAny _ _ (execs (Stmt.Assign [Expr.Name _ _] _ _ :: _) _) _ _ _); refine rAs ?_) | with_reducible refine rRet ?_ | with_reducible refine rIf ?_ | with_reducible refine wpAny_BinOp ?_ | with_reducible refine rI ?_ | with_reducible refine rS ?_ | ((with_reducible show wpAny _ _ (eval (Expr.Name _ _) _) _ _ _); refine nL (by assumption) rfl ?_) | ((with_reducible show wpAny _ _ (storeName _ _ _) _ _ _); refine rSt (by assumption) ?_; intro _ _) | ((with_reducible show wpAny _ _ (isTrue (Expr.Compare _ [_] [_] _) _ _) _ _ _); refine wpAny_isTrue_Compare1 ?_) | with_reducible refine wpAny_truthy_bool ?_ | with_reducible refine rEq ?_ | ((with_reducible show wpAny _ _ (eval (Expr.Call _ _ [] _) _) _ _ _); refine Call_ ?_) | ((with_reducible show wpAny _ _ (spliced (backTo _ (starEach (_ :: _) _))) _ _ _); refine spliced_more ?_) | ((with_reducible show wpAny _ _ (spliced (backTo _ (starEach [] _))) _ _ _); refine spliced_none ?_) | with_reducible refine wpAny_IfExp ?_))
        refine nF rfl (K10.cell hc3 (nt _ (by (clear hn0 hn hLL hcc hc hla hla0 hf hct hLf hlf h1 h2 h3 hy hes hlt hq hmid hs hbu; omega))) (n1 _ (by (clear hn0 hn hLL hcc hc hla hf hct hLf hlf h1 h2 h3 hy hes hlt hq hmid hs hbu; omega)))) ?_
        have hfo10 := K10.kp _ _ hfo5 (nt _ hLf) (n1 _ (Nat.ne_of_gt hlf))
        refine rCW hfo10 rfl ?_
        repeat (first | (first | ((with_reducible show wpAny _ _ (execs (Stmt.Assign [Expr.Name _ _] _ _ :: _) _) _ _ _); refine rAs ?_) | with_reducible refine rRet ?_ | with_reducible refine rIf ?_ | with_reducible refine wpAny_BinOp ?_ | with_reducible refine rI ?_ | with_reducible refine rS ?_ | ((with_reducible show wpAny _ _ (eval (Expr.Name _ _) _) _ _ _); refine nL (by assumption) rfl ?_) | ((with_reducible show wpAny _ _ (storeName _ _ _) _ _ _); refine rSt (by assumption) ?_; intro _ _) | ((with_reducible show wpAny _ _ (isTrue (Expr.Compare _ [_] [_] _) _ _) _ _ _); refine wpAny_isTrue_Compare1 ?_) | with_reducible refine wpAny_truthy_bool ?_ | with_reducible refine rEq ?_ | ((with_reducible show wpAny _ _ (eval (Expr.Call _ _ [] _) _) _ _ _); refine Call_ ?_) | ((with_reducible show wpAny _ _ (spliced (backTo _ (starEach (_ :: _) _))) _ _ _); refine spliced_more ?_) | ((with_reducible show wpAny _ _ (spliced (backTo _ (starEach [] _))) _ _ _); refine spliced_none ?_) | with_reducible refine wpAny_IfExp ?_) | (dsimp only; first | ((with_reducible show wpAny _ _ (execs (Stmt.Assign [Expr.Name _ _] _ _ :: _) _) _ _ _); refine rAs ?_) | with_reducible refine rRet ?_ | with_reducible refine rIf ?_ | with_reducible refine wpAny_BinOp ?_ | with_reducible refine rI ?_ | with_reducible refine rS ?_ | ((with_reducible show wpAny _ _ (eval (Expr.Name _ _) _) _ _ _); refine nL (by assumption) rfl ?_) | ((with_reducible show wpAny _ _ (storeName _ _ _) _ _ _); refine rSt (by assumption) ?_; intro _ _) | ((with_reducible show wpAny _ _ (isTrue (Expr.Compare _ [_] [_] _) _ _) _ _ _); refine wpAny_isTrue_Compare1 ?_) | with_reducible refine wpAny_truthy_bool ?_ | with_reducible refine rEq ?_ | ((with_reducible show wpAny _ _ (eval (Expr.Call _ _ [] _) _) _ _ _); refine Call_ ?_) | ((with_reducible show wpAny _ _ (spliced (backTo _ (starEach (_ :: _) _))) _ _ _); refine spliced_more ?_) | ((with_reducible show wpAny _ _ (spliced (backTo _ (starEach [] _))) _ _ _); refine spliced_none ?_) | with_reducible refine wpAny_IfExp ?_))
        refine ⟨hfo10, ?_⟩
        have hsn : n * (mid - Lo) = sh := by rw [Nat.mul_comm]; exact hs
        refine ih Lo mid (y % 2 ^ sh) (subA h1 m2 m1) m1 m3 (by rw [hsn]; exact Nat.mod_lt _ (Nat.pow_pos (by (clear hn0 hn hLL hcc hc hla hla0 hf hct hLf hlf h1 h2 h3 hy hes hlt hq hmid hs hbu hsn; omega)))) _ _ _ _ _ _ _ ws es F10.ok K10 ⟨ol, F10.at 0 rfl, cl, en, dl⟩ hi' hes rm7 ?_
        intro h11 tks11 ws11 k11 K11 hl11 hi11
        obtain ⟨o11, e11, r11⟩ := id hl11
        have F11 := F10.call1 0 rfl k11 K11 e11
        have K12 := K'.trans F11.kp
        refine rEx ?_
        repeat (first | (first | ((with_reducible show wpAny _ _ (execs (Stmt.Assign [Expr.Name _ _] _ _ :: _) _) _ _ _); refine rAs ?_) | with_reducible refine rRet ?_ | with_reducible refine rIf ?_ | with_reducible refine wpAny_BinOp ?_ | with_reducible refine rI ?_ | with_reducible refine rS ?_ | ((with_reducible show wpAny _ _ (eval (Expr.Name _ _) _) _ _ _); refine nL (by assumption) rfl ?_) | ((with_reducible show wpAny _ _ (storeName _ _ _) _ _ _); refine rSt (by assumption) ?_; intro _ _) | ((with_reducible show wpAny _ _ (isTrue (Expr.Compare _ [_] [_] _) _ _) _ _ _); refine wpAny_isTrue_Compare1 ?_) | with_reducible refine wpAny_truthy_bool ?_ | with_reducible refine rEq ?_ | ((with_reducible show wpAny _ _ (eval (Expr.Call _ _ [] _) _) _ _ _); refine Call_ ?_) | ((with_reducible show wpAny _ _ (spliced (backTo _ (starEach (_ :: _) _))) _ _ _); refine spliced_more ?_) | ((with_reducible show wpAny _ _ (spliced (backTo _ (starEach [] _))) _ _ _); refine spliced_none ?_) | with_reducible refine wpAny_IfExp ?_) | (dsimp only; first | ((with_reducible show wpAny _ _ (execs (Stmt.Assign [Expr.Name _ _] _ _ :: _) _) _ _ _); refine rAs ?_) | with_reducible refine rRet ?_ | with_reducible refine rIf ?_ | with_reducible refine wpAny_BinOp ?_ | with_reducible refine rI ?_ | with_reducible refine rS ?_ | ((with_reducible show wpAny _ _ (eval (Expr.Name _ _) _) _ _ _); refine nL (by assumption) rfl ?_) | ((with_reducible show wpAny _ _ (storeName _ _ _) _ _ _); refine rSt (by assumption) ?_; intro _ _) | ((with_reducible show wpAny _ _ (isTrue (Expr.Compare _ [_] [_] _) _ _) _ _ _); refine wpAny_isTrue_Compare1 ?_) | with_reducible refine wpAny_truthy_bool ?_ | with_reducible refine rEq ?_ | ((with_reducible show wpAny _ _ (eval (Expr.Call _ _ [] _) _) _ _ _); refine Call_ ?_) | ((with_reducible show wpAny _ _ (spliced (backTo _ (starEach (_ :: _) _))) _ _ _); refine spliced_more ?_) | ((with_reducible show wpAny _ _ (spliced (backTo _ (starEach [] _))) _ _ _); refine spliced_none ?_) | with_reducible refine wpAny_IfExp ?_))
        refine nF rfl (K12.cell hc3 (nt _ (by (clear hn0 hn hLL hcc hc hla hla0 hf hct hLf hlf h1 h2 h3 hy hes hlt hq hmid hs hbu hsn r11; omega))) (n1 _ (by (clear hn0 hn hLL hcc hc hla hf hct hLf hlf h1 h2 h3 hy hes hlt hq hmid hs hbu hsn r11; omega)))) ?_
        have hfo12 := K12.kp _ _ hfo5 (nt _ hLf) (n1 _ (Nat.ne_of_gt hlf))
        refine rCW hfo12 rfl ?_
        repeat (first | (first | ((with_reducible show wpAny _ _ (execs (Stmt.Assign [Expr.Name _ _] _ _ :: _) _) _ _ _); refine rAs ?_) | with_reducible refine rRet ?_ | with_reducible refine rIf ?_ | with_reducible refine wpAny_BinOp ?_ | with_reducible refine rI ?_ | with_reducible refine rS ?_ | ((with_reducible show wpAny _ _ (eval (Expr.Name _ _) _) _ _ _); refine nL (by assumption) rfl ?_) | ((with_reducible show wpAny _ _ (storeName _ _ _) _ _ _); refine rSt (by assumption) ?_; intro _ _) | ((with_reducible show wpAny _ _ (isTrue (Expr.Compare _ [_] [_] _) _ _) _ _ _); refine wpAny_isTrue_Compare1 ?_) | with_reducible refine wpAny_truthy_bool ?_ | with_reducible refine rEq ?_ | ((with_reducible show wpAny _ _ (eval (Expr.Call _ _ [] _) _) _ _ _); refine Call_ ?_) | ((with_reducible show wpAny _ _ (spliced (backTo _ (starEach (_ :: _) _))) _ _ _); refine spliced_more ?_) | ((with_reducible show wpAny _ _ (spliced (backTo _ (starEach [] _))) _ _ _); refine spliced_none ?_) | with_reducible refine wpAny_IfExp ?_) | (dsimp only; first | ((with_reducible show wpAny _ _ (execs (Stmt.Assign [Expr.Name _ _] _ _ :: _) _) _ _ _); refine rAs ?_) | with_reducible refine rRet ?_ | with_reducible refine rIf ?_ | with_reducible refine wpAny_BinOp ?_ | with_reducible refine rI ?_ | with_reducible refine rS ?_ | ((with_reducible show wpAny _ _ (eval (Expr.Name _ _) _) _ _ _); refine nL (by assumption) rfl ?_) | ((with_reducible show wpAny _ _ (storeName _ _ _) _ _ _); refine rSt (by assumption) ?_; intro _ _) | ((with_reducible show wpAny _ _ (isTrue (Expr.Compare _ [_] [_] _) _ _) _ _ _); refine wpAny_isTrue_Compare1 ?_) | with_reducible refine wpAny_truthy_bool ?_ | with_reducible refine rEq ?_ | ((with_reducible show wpAny _ _ (eval (Expr.Call _ _ [] _) _) _ _ _); refine Call_ ?_) | ((with_reducible show wpAny _ _ (spliced (backTo _ (starEach (_ :: _) _))) _ _ _); refine spliced_more ?_) | ((with_reducible show wpAny _ _ (spliced (backTo _ (starEach [] _))) _ _ _); refine spliced_none ?_) | with_reducible refine wpAny_IfExp ?_))
        refine ⟨hfo12, ?_⟩
        have hlen1 : (es.take Lo ++ digs n (mid - Lo) (y % 2 ^ sh) ++ es.drop mid).length = c := len_txd (Nat.le_of_lt m1) m3 hes (digs_len ..)

        refine ih mid Hi (y / 2 ^ sh) (subB h1 m1 m2) m2 h3 hbu _ _ _ _ _ _ _ ws11 _ F11.ok K12 hl11 hi11 hlen1 rm7 ?_
        intro h13 tks13 ws13 k13 K13 hl13 hi13
        obtain ⟨o13, e13, r13⟩ := id hl13
        have F13 := F11.call1 0 rfl k13 K13 e13
        refine rNil ?_
        have e : (List.take mid (es.take Lo ++ digs n (mid - Lo) (y % 2 ^ sh) ++ es.drop mid)) ++ digs n (Hi - mid) (y / 2 ^ sh) ++ List.drop Hi (es.take Lo ++ digs n (mid - Lo) (y % 2 ^ sh) ++ es.drop mid) =
            es.take Lo ++ digs n (Hi - Lo) y ++ es.drop Hi := by
          have l1 : (es.take Lo ++ digs n (mid - Lo) (y % 2 ^ sh)).length = mid := len_tx (Nat.le_of_lt m1) m3 hes (digs_len ..)

          rw [List.take_append_of_le_length (Nat.le_of_eq l1.symm), List.take_of_length_le (Nat.le_of_eq l1)]
          rw [List.drop_append, List.drop_of_length_le (by rw [l1]; exact Nat.le_of_lt m2), List.nil_append, List.drop_drop, l1]
          have e1 : Hi - Lo = (mid - Lo) + (Hi - mid) := sub3 (Nat.le_of_lt m1) (Nat.le_of_lt m2)
          rw [e1, digs_add, hsn, List.append_assoc, List.append_assoc, List.append_assoc, List.append_assoc]
          have e2 : mid + (Hi - mid) = Hi := Nat.add_sub_cancel' (Nat.le_of_lt m2)
          rw [e2]
        have q := fun tks => hR h13 tks ws13 F13.ok F13.kp hl13 (e ▸ hi13)
        exact q _
  have hc' : ∀ x', (List.replicate c (0 : Int)).take 0 ++ digs n (c - 0) x' ++ (List.replicate c (0 : Int)).drop c = digs n c x' := by
    intro x'
    simp
  refine rIf ?_
  refine isTrue_plain ?_
  repeat (first | (first | ((with_reducible show wpAny _ _ (execs (Stmt.Assign [Expr.Name _ _] _ _ :: _) _) _ _ _); refine rAs ?_) | with_reducible refine rRet ?_ | with_reducible refine rIf ?_ | with_reducible refine wpAny_BinOp ?_ | with_reducible refine rI ?_ | with_reducible refine rS ?_ | ((with_reducible show wpAny _ _ (eval (Expr.Name _ _) _) _ _ _); refine nL (by assumption) rfl ?_) | ((with_reducible show wpAny _ _ (storeName _ _ _) _ _ _); refine rSt (by assumption) ?_; intro _ _) | ((with_reducible show wpAny _ _ (isTrue (Expr.Compare _ [_] [_] _) _ _) _ _ _); refine wpAny_isTrue_Compare1 ?_) | with_reducible refine wpAny_truthy_bool ?_ | with_reducible refine rEq ?_ | ((with_reducible show wpAny _ _ (eval (Expr.Call _ _ [] _) _) _ _ _); refine Call_ ?_) | ((with_reducible show wpAny _ _ (spliced (backTo _ (starEach (_ :: _) _))) _ _ _); refine spliced_more ?_) | ((with_reducible show wpAny _ _ (spliced (backTo _ (starEach [] _))) _ _ _); refine spliced_none ?_) | with_reducible refine wpAny_IfExp ?_) | (dsimp only; first | ((with_reducible show wpAny _ _ (execs (Stmt.Assign [Expr.Name _ _] _ _ :: _) _) _ _ _); refine rAs ?_) | with_reducible refine rRet ?_ | with_reducible refine rIf ?_ | with_reducible refine wpAny_BinOp ?_ | with_reducible refine rI ?_ | with_reducible refine rS ?_ | ((with_reducible show wpAny _ _ (eval (Expr.Name _ _) _) _ _ _); refine nL (by assumption) rfl ?_) | ((with_reducible show wpAny _ _ (storeName _ _ _) _ _ _); refine rSt (by assumption) ?_; intro _ _) | ((with_reducible show wpAny _ _ (isTrue (Expr.Compare _ [_] [_] _) _ _) _ _ _); refine wpAny_isTrue_Compare1 ?_) | with_reducible refine wpAny_truthy_bool ?_ | with_reducible refine rEq ?_ | ((with_reducible show wpAny _ _ (eval (Expr.Call _ _ [] _) _) _ _ _); refine Call_ ?_) | ((with_reducible show wpAny _ _ (spliced (backTo _ (starEach (_ :: _) _))) _ _ _); refine spliced_more ?_) | ((with_reducible show wpAny _ _ (spliced (backTo _ (starEach [] _))) _ _ _); refine spliced_none ?_) | with_reducible refine wpAny_IfExp ?_))
  refine rTru ?_
  have hbits : Builtin.Int.intBits (x : Int) ≤ n * c := by
    have h1 : Builtin.Int.intBits (x : Int) + n - 1 < n * (c + 1) := by
      rw [← hcc]
      exact Nat.lt_mul_div_succ _ hn0
    rw [Nat.mul_add, Nat.mul_one] at h1
    (clear hn0 hn hLL hcc hc hla hla0 hf hct hLf hlf; omega)
  have hxlt : x < 2 ^ (n * c) := by
    have := intBits_le_iff.mp hbits
    rwa [Int.natAbs_natCast] at this
  by_cases hx0 : x = 0
  · subst hx0
    refine iteF (by simp) ?_
    refine nilNext ?_
    refine rRet ?_
    refine nC rfl hc2 ?_
    have hc0 : c = 0 := by
      rw [← hcc]
      show (Builtin.Int.intBits 0 + n - 1) / n = 0
      have : Builtin.Int.intBits 0 = 0 := by decide
      rw [this]
      exact Nat.div_eq_of_lt (by (clear hLL hc hla hla0 hf hct hLf hlf hcc hbits hxlt this; omega))
    subst hc0
    have q := fun tks => h la [] h₅ tks F6.ok F6.kp (by (clear hn0 hn hLL hla hf hct hLf hlf hc hcc hbits hxlt; omega)) ⟨_, hl5, rfl, _, rfl⟩ .nil
    exact q _
  · refine iteT (by simpa using hx0) ?_
    have hfo5' := hfo5
    have hcp : 0 < c := by
      rcases Nat.eq_zero_or_pos c with z | z
      · subst z
        simp at hxlt
        (clear hn0 hn hLL hla hla0 hf hct hLf hlf hcc hc hbits; omega)
      · exact z
    refine rEx ?_
    repeat (first | (first | ((with_reducible show wpAny _ _ (execs (Stmt.Assign [Expr.Name _ _] _ _ :: _) _) _ _ _); refine rAs ?_) | with_reducible refine rRet ?_ | with_reducible refine rIf ?_ | with_reducible refine wpAny_BinOp ?_ | with_reducible refine rI ?_ | with_reducible refine rS ?_ | ((with_reducible show wpAny _ _ (eval (Expr.Name _ _) _) _ _ _); refine nL (by assumption) rfl ?_) | ((with_reducible show wpAny _ _ (storeName _ _ _) _ _ _); refine rSt (by assumption) ?_; intro _ _) | ((with_reducible show wpAny _ _ (isTrue (Expr.Compare _ [_] [_] _) _ _) _ _ _); refine wpAny_isTrue_Compare1 ?_) | with_reducible refine wpAny_truthy_bool ?_ | with_reducible refine rEq ?_ | ((with_reducible show wpAny _ _ (eval (Expr.Call _ _ [] _) _) _ _ _); refine Call_ ?_) | ((with_reducible show wpAny _ _ (spliced (backTo _ (starEach (_ :: _) _))) _ _ _); refine spliced_more ?_) | ((with_reducible show wpAny _ _ (spliced (backTo _ (starEach [] _))) _ _ _); refine spliced_none ?_) | with_reducible refine wpAny_IfExp ?_) | (dsimp only; first | ((with_reducible show wpAny _ _ (execs (Stmt.Assign [Expr.Name _ _] _ _ :: _) _) _ _ _); refine rAs ?_) | with_reducible refine rRet ?_ | with_reducible refine rIf ?_ | with_reducible refine wpAny_BinOp ?_ | with_reducible refine rI ?_ | with_reducible refine rS ?_ | ((with_reducible show wpAny _ _ (eval (Expr.Name _ _) _) _ _ _); refine nL (by assumption) rfl ?_) | ((with_reducible show wpAny _ _ (storeName _ _ _) _ _ _); refine rSt (by assumption) ?_; intro _ _) | ((with_reducible show wpAny _ _ (isTrue (Expr.Compare _ [_] [_] _) _ _) _ _ _); refine wpAny_isTrue_Compare1 ?_) | with_reducible refine wpAny_truthy_bool ?_ | with_reducible refine rEq ?_ | ((with_reducible show wpAny _ _ (eval (Expr.Call _ _ [] _) _) _ _ _); refine Call_ ?_) | ((with_reducible show wpAny _ _ (spliced (backTo _ (starEach (_ :: _) _))) _ _ _); refine spliced_more ?_) | ((with_reducible show wpAny _ _ (spliced (backTo _ (starEach [] _))) _ _ _); refine spliced_none ?_) | with_reducible refine wpAny_IfExp ?_))
    refine nC rfl hc3 ?_
    refine rCW hfo5 rfl ?_
    repeat (first | (first | ((with_reducible show wpAny _ _ (execs (Stmt.Assign [Expr.Name _ _] _ _ :: _) _) _ _ _); refine rAs ?_) | with_reducible refine rRet ?_ | with_reducible refine rIf ?_ | with_reducible refine wpAny_BinOp ?_ | with_reducible refine rI ?_ | with_reducible refine rS ?_ | ((with_reducible show wpAny _ _ (eval (Expr.Name _ _) _) _ _ _); refine nL (by assumption) rfl ?_) | ((with_reducible show wpAny _ _ (storeName _ _ _) _ _ _); refine rSt (by assumption) ?_; intro _ _) | ((with_reducible show wpAny _ _ (isTrue (Expr.Compare _ [_] [_] _) _ _) _ _ _); refine wpAny_isTrue_Compare1 ?_) | with_reducible refine wpAny_truthy_bool ?_ | with_reducible refine rEq ?_ | ((with_reducible show wpAny _ _ (eval (Expr.Call _ _ [] _) _) _ _ _); refine Call_ ?_) | ((with_reducible show wpAny _ _ (spliced (backTo _ (starEach (_ :: _) _))) _ _ _); refine spliced_more ?_) | ((with_reducible show wpAny _ _ (spliced (backTo _ (starEach [] _))) _ _ _); refine spliced_none ?_) | with_reducible refine wpAny_IfExp ?_) | (dsimp only; first | ((with_reducible show wpAny _ _ (execs (Stmt.Assign [Expr.Name _ _] _ _ :: _) _) _ _ _); refine rAs ?_) | with_reducible refine rRet ?_ | with_reducible refine rIf ?_ | with_reducible refine wpAny_BinOp ?_ | with_reducible refine rI ?_ | with_reducible refine rS ?_ | ((with_reducible show wpAny _ _ (eval (Expr.Name _ _) _) _ _ _); refine nL (by assumption) rfl ?_) | ((with_reducible show wpAny _ _ (storeName _ _ _) _ _ _); refine rSt (by assumption) ?_; intro _ _) | ((with_reducible show wpAny _ _ (isTrue (Expr.Compare _ [_] [_] _) _ _) _ _ _); refine wpAny_isTrue_Compare1 ?_) | with_reducible refine wpAny_truthy_bool ?_ | with_reducible refine rEq ?_ | ((with_reducible show wpAny _ _ (eval (Expr.Call _ _ [] _) _) _ _ _); refine Call_ ?_) | ((with_reducible show wpAny _ _ (spliced (backTo _ (starEach (_ :: _) _))) _ _ _); refine spliced_more ?_) | ((with_reducible show wpAny _ _ (spliced (backTo _ (starEach [] _))) _ _ _); refine spliced_none ?_) | with_reducible refine wpAny_IfExp ?_))
    refine nB G F6 rfl rfl ?_
    refine PyProof.Rows.callWith_builtin1 ?_
    repeat (first | (first | ((with_reducible show wpAny _ _ (execs (Stmt.Assign [Expr.Name _ _] _ _ :: _) _) _ _ _); refine rAs ?_) | with_reducible refine rRet ?_ | with_reducible refine rIf ?_ | with_reducible refine wpAny_BinOp ?_ | with_reducible refine rI ?_ | with_reducible refine rS ?_ | ((with_reducible show wpAny _ _ (eval (Expr.Name _ _) _) _ _ _); refine nL (by assumption) rfl ?_) | ((with_reducible show wpAny _ _ (storeName _ _ _) _ _ _); refine rSt (by assumption) ?_; intro _ _) | ((with_reducible show wpAny _ _ (isTrue (Expr.Compare _ [_] [_] _) _ _) _ _ _); refine wpAny_isTrue_Compare1 ?_) | with_reducible refine wpAny_truthy_bool ?_ | with_reducible refine rEq ?_ | ((with_reducible show wpAny _ _ (eval (Expr.Call _ _ [] _) _) _ _ _); refine Call_ ?_) | ((with_reducible show wpAny _ _ (spliced (backTo _ (starEach (_ :: _) _))) _ _ _); refine spliced_more ?_) | ((with_reducible show wpAny _ _ (spliced (backTo _ (starEach [] _))) _ _ _); refine spliced_none ?_) | with_reducible refine wpAny_IfExp ?_) | (dsimp only; first | ((with_reducible show wpAny _ _ (execs (Stmt.Assign [Expr.Name _ _] _ _ :: _) _) _ _ _); refine rAs ?_) | with_reducible refine rRet ?_ | with_reducible refine rIf ?_ | with_reducible refine wpAny_BinOp ?_ | with_reducible refine rI ?_ | with_reducible refine rS ?_ | ((with_reducible show wpAny _ _ (eval (Expr.Name _ _) _) _ _ _); refine nL (by assumption) rfl ?_) | ((with_reducible show wpAny _ _ (storeName _ _ _) _ _ _); refine rSt (by assumption) ?_; intro _ _) | ((with_reducible show wpAny _ _ (isTrue (Expr.Compare _ [_] [_] _) _ _) _ _ _); refine wpAny_isTrue_Compare1 ?_) | with_reducible refine wpAny_truthy_bool ?_ | with_reducible refine rEq ?_ | ((with_reducible show wpAny _ _ (eval (Expr.Call _ _ [] _) _) _ _ _); refine Call_ ?_) | ((with_reducible show wpAny _ _ (spliced (backTo _ (starEach (_ :: _) _))) _ _ _); refine spliced_more ?_) | ((with_reducible show wpAny _ _ (spliced (backTo _ (starEach [] _))) _ _ _); refine spliced_none ?_) | with_reducible refine wpAny_IfExp ?_))
    refine nC rfl hc2 ?_
    repeat (first | (first | ((with_reducible show wpAny _ _ (execs (Stmt.Assign [Expr.Name _ _] _ _ :: _) _) _ _ _); refine rAs ?_) | with_reducible refine rRet ?_ | with_reducible refine rIf ?_ | with_reducible refine wpAny_BinOp ?_ | with_reducible refine rI ?_ | with_reducible refine rS ?_ | ((with_reducible show wpAny _ _ (eval (Expr.Name _ _) _) _ _ _); refine nL (by assumption) rfl ?_) | ((with_reducible show wpAny _ _ (storeName _ _ _) _ _ _); refine rSt (by assumption) ?_; intro _ _) | ((with_reducible show wpAny _ _ (isTrue (Expr.Compare _ [_] [_] _) _ _) _ _ _); refine wpAny_isTrue_Compare1 ?_) | with_reducible refine wpAny_truthy_bool ?_ | with_reducible refine rEq ?_ | ((with_reducible show wpAny _ _ (eval (Expr.Call _ _ [] _) _) _ _ _); refine Call_ ?_) | ((with_reducible show wpAny _ _ (spliced (backTo _ (starEach (_ :: _) _))) _ _ _); refine spliced_more ?_) | ((with_reducible show wpAny _ _ (spliced (backTo _ (starEach [] _))) _ _ _); refine spliced_none ?_) | with_reducible refine wpAny_IfExp ?_) | (dsimp only; first | ((with_reducible show wpAny _ _ (execs (Stmt.Assign [Expr.Name _ _] _ _ :: _) _) _ _ _); refine rAs ?_) | with_reducible refine rRet ?_ | with_reducible refine rIf ?_ | with_reducible refine wpAny_BinOp ?_ | with_reducible refine rI ?_ | with_reducible refine rS ?_ | ((with_reducible show wpAny _ _ (eval (Expr.Name _ _) _) _ _ _); refine nL (by assumption) rfl ?_) | ((with_reducible show wpAny _ _ (storeName _ _ _) _ _ _); refine rSt (by assumption) ?_; intro _ _) | ((with_reducible show wpAny _ _ (isTrue (Expr.Compare _ [_] [_] _) _ _) _ _ _); refine wpAny_isTrue_Compare1 ?_) | with_reducible refine wpAny_truthy_bool ?_ | with_reducible refine rEq ?_ | ((with_reducible show wpAny _ _ (eval (Expr.Call _ _ [] _) _) _ _ _); refine Call_ ?_) | ((with_reducible show wpAny _ _ (spliced (backTo _ (starEach (_ :: _) _))) _ _ _); refine spliced_more ?_) | ((with_reducible show wpAny _ _ (spliced (backTo _ (starEach [] _))) _ _ _); refine spliced_none ?_) | with_reducible refine wpAny_IfExp ?_))
    refine rLen (n := c) ⟨_, hl5, rfl, _, rfl⟩ (by simp) (by (clear hn0 hn hLL hla hla0 hf hct hLf hlf hbits hxlt hx0; omega)) ?_
    intro tl1 tl2
    repeat (first | (first | ((with_reducible show wpAny _ _ (execs (Stmt.Assign [Expr.Name _ _] _ _ :: _) _) _ _ _); refine rAs ?_) | with_reducible refine rRet ?_ | with_reducible refine rIf ?_ | with_reducible refine wpAny_BinOp ?_ | with_reducible refine rI ?_ | with_reducible refine rS ?_ | ((with_reducible show wpAny _ _ (eval (Expr.Name _ _) _) _ _ _); refine nL (by assumption) rfl ?_) | ((with_reducible show wpAny _ _ (storeName _ _ _) _ _ _); refine rSt (by assumption) ?_; intro _ _) | ((with_reducible show wpAny _ _ (isTrue (Expr.Compare _ [_] [_] _) _ _) _ _ _); refine wpAny_isTrue_Compare1 ?_) | with_reducible refine wpAny_truthy_bool ?_ | with_reducible refine rEq ?_ | ((with_reducible show wpAny _ _ (eval (Expr.Call _ _ [] _) _) _ _ _); refine Call_ ?_) | ((with_reducible show wpAny _ _ (spliced (backTo _ (starEach (_ :: _) _))) _ _ _); refine spliced_more ?_) | ((with_reducible show wpAny _ _ (spliced (backTo _ (starEach [] _))) _ _ _); refine spliced_none ?_) | with_reducible refine wpAny_IfExp ?_) | (dsimp only; first | ((with_reducible show wpAny _ _ (execs (Stmt.Assign [Expr.Name _ _] _ _ :: _) _) _ _ _); refine rAs ?_) | with_reducible refine rRet ?_ | with_reducible refine rIf ?_ | with_reducible refine wpAny_BinOp ?_ | with_reducible refine rI ?_ | with_reducible refine rS ?_ | ((with_reducible show wpAny _ _ (eval (Expr.Name _ _) _) _ _ _); refine nL (by assumption) rfl ?_) | ((with_reducible show wpAny _ _ (storeName _ _ _) _ _ _); refine rSt (by assumption) ?_; intro _ _) | ((with_reducible show wpAny _ _ (isTrue (Expr.Compare _ [_] [_] _) _ _) _ _ _); refine wpAny_isTrue_Compare1 ?_) | with_reducible refine wpAny_truthy_bool ?_ | with_reducible refine rEq ?_ | ((with_reducible show wpAny _ _ (eval (Expr.Call _ _ [] _) _) _ _ _); refine Call_ ?_) | ((with_reducible show wpAny _ _ (spliced (backTo _ (starEach (_ :: _) _))) _ _ _); refine spliced_more ?_) | ((with_reducible show wpAny _ _ (spliced (backTo _ (starEach [] _))) _ _ _); refine spliced_none ?_) | with_reducible refine wpAny_IfExp ?_))
    refine ⟨hfo5, ?_⟩
    refine inner c 0 c x (by (clear hn0 hn hLL hla hla0 hf hct hLf hlf hbits hxlt hx0; omega)) hcp (Nat.le_refl _) (by simpa using hxlt) _ _ _ _ _ _ _ (List.replicate c (Value.int 0 tk₁)) (List.replicate c 0) F6.ok Kp.refl ⟨_, hl5, rfl, _, rfl⟩ ?_ (by simp) (rm₁.le (by (clear hn0 hn hLL hcc hc hla hla0 hf hct hLf hlf hbits hxlt hx0 hcp; omega))) ?_
    · exact ints_rep _ c
    intro h13 tks13 ws13 k13 K13 hl13 hi13
    rw [hc'] at hi13
    obtain ⟨o13, e13, r13⟩ := id hl13
    have F13 := F6.call1 1 rfl k13 K13 e13
    refine nilNext ?_
    refine rRet ?_
    refine nC rfl ⟨_, F13.at 4 rfl, d2'⟩ ?_
    have q := fun tks => h la ws13 h13 tks F13.ok F13.kp (by (clear hn0 hn hLL hcc hc hla hf hct hLf hlf hbits hxlt hx0 hcp r13; omega)) hl13 hi13
    exact q _
end Mine

namespace Mine
section
variable {w : World} {A : Around} {E : Value → Shared → Prop} {Q : Value → Shared → Prop} {t u : Tok} {hp : Heap} {gn : Array GenState} {dr : Drawn} {tk : Nat} {os : OsState}
theorem rLe {a b : Int} (h : Q (.bool (decide (a ≤ b))) ⟨hp, gn, dr, tk, os⟩) : wpAny (model PP w) A (compareOp .LtE (.int a t) (.int b u)) Q E ⟨hp, gn, dr, tk, os⟩ := le_int h
theorem rDivmod {a b : Nat} (hb : b ≠ 0) (hl : b.log2 < 9000) (h : ∀ u1 u2 tk2, Q (.ref hp.objs.size) ⟨hp.push { cls := .type "tuple", data := .seq #[.int (a / b : Nat) u1, .int (a % b : Nat) u2] }, gn, dr, tk2, os⟩) :
    wpAny (model PP w) A (call (.builtin "divmod") [.int a t, .int b u]) Q E ⟨hp, gn, dr, tk, os⟩ := by
  refine divmod_int (by (clear hl; omega)) ?_ (.inl (PyProof.noPylong_of_log2 (by rw [Int.natAbs_natCast]; exact hl)))
  have e1 : ((a : Nat) : Int).fdiv (b : Int) = ((a / b : Nat) : Int) := fdivN a b
  have e2 : ((a : Nat) : Int).fmod (b : Int) = ((a % b : Nat) : Int) := by
    rw [Int.fmod_eq_emod_of_nonneg _ (by (clear hb hl e1; omega))]; rfl
  rw [e1, e2]
  exact h _ _ _
end
theorem c_d2n {w : World} {mg mb : Str → Option Value} {g0 : Heap} (G : Gd w mg mb g0) {A : Around} {R : Result → Shared → Prop} {hp : Heap} {gn : Array GenState} {dr : Drawn} {tk0 : Nat} {os : OsState} (k : OK g0 hp) {a b n : Nat} {t1 t2 t3 : Tok} (rm : Rm A 5)
  (hb : b ≠ 0) (hl : b.log2 < 9000) (hbit : Builtin.Int.intBits (a : Int) ≤ 4000 + n)
 (h : ∀ t u1 u2 h' tks, OK g0 h' → Kp [] hp h' → hp.objs.size ≤ t → h'.IsTuple t #[.int (a / b : Nat) u1, .int (a % b : Nat) u2] → R (.ok (.ret (.ref t))) ⟨h', gn, dr, tks, os⟩) : codeAny (model PP w) A (.call (.ref aD2N) ⟨[.int a t1, .int b t2, .int n t3], []⟩) R ⟨hp, gn, dr, tk0, os⟩ := by
  refine ent (T := []) (n := 4) (binds := [("a", .int a t1), ("b", .int b t2), ("n", .int n t3)]) G k rm (k.at0 G rfl) rfl (k.code G rfl) rfl rfl rfl rfl rfl rfl rfl ?_
  intro h1 tk1 F rm1 kk
  repeat (first | (first | ((with_reducible show wpAny _ _ (execs (Stmt.Assign [Expr.Name _ _] _ _ :: _) _) _ _ _); refine rAs ?_) | with_reducible refine rRet ?_ | with_reducible refine rIf ?_ | with_reducible refine wpAny_BinOp ?_ | with_reducible refine rI ?_ | with_reducible refine rS ?_ | ((with_reducible show wpAny _ _ (eval (Expr.Name _ _) _) _ _ _); refine nL (by assumption) rfl ?_) | ((with_reducible show wpAny _ _ (storeName _ _ _) _ _ _); refine rSt (by assumption) ?_; intro _ _) | ((with_reducible show wpAny _ _ (isTrue (Expr.Compare _ [_] [_] _) _ _) _ _ _); refine wpAny_isTrue_Compare1 ?_) | with_reducible refine wpAny_truthy_bool ?_ | with_reducible refine rEq ?_ | ((with_reducible show wpAny _ _ (eval (Expr.Call _ _ [] _) _) _ _ _); refine Call_ ?_) | ((with_reducible show wpAny _ _ (spliced (backTo _ (starEach (_ :: _) _))) _ _ _); refine spliced_more ?_) | ((with_reducible show wpAny _ _ (spliced (backTo _ (starEach [] _))) _ _ _); refine spliced_none ?_) | with_reducible refine wpAny_IfExp ?_) | (dsimp only; first | ((with_reducible show wpAny _ _ (execs (Stmt.Assign [Expr.Name _ _] _ _ :: _) _) _ _ _); refine rAs ?_) | with_reducible refine rRet ?_ | with_reducible refine rIf ?_ | with_reducible refine wpAny_BinOp ?_ | with_reducible refine rI ?_ | with_reducible refine rS ?_ | ((with_reducible show wpAny _ _ (eval (Expr.Name _ _) _) _ _ _); refine nL (by assumption) rfl ?_) | ((with_reducible show wpAny _ _ (storeName _ _ _) _ _ _); refine rSt (by assumption) ?_; intro _ _) | ((with_reducible show wpAny _ _ (isTrue (Expr.Compare _ [_] [_] _) _ _) _ _ _); refine wpAny_isTrue_Compare1 ?_) | with_reducible refine wpAny_truthy_bool ?_ | with_reducible refine rEq ?_ | ((with_reducible show wpAny _ _ (eval (Expr.Call _ _ [] _) _) _ _ _); refine Call_ ?_) | ((with_reducible show wpAny _ _ (spliced (backTo _ (starEach (_ :: _) _))) _ _ _); refine spliced_more ?_) | ((with_reducible show wpAny _ _ (spliced (backTo _ (starEach [] _))) _ _ _); refine spliced_none ?_) | with_reducible refine wpAny_IfExp ?_))
  refine rM ?_
  repeat (first | (first | ((with_reducible show wpAny _ _ (execs (Stmt.Assign [Expr.Name _ _] _ _ :: _) _) _ _ _); refine rAs ?_) | with_reducible refine rRet ?_ | with_reducible refine rIf ?_ | with_reducible refine wpAny_BinOp ?_ | with_reducible refine rI ?_ | with_reducible refine rS ?_ | ((with_reducible show wpAny _ _ (eval (Expr.Name _ _) _) _ _ _); refine nL (by assumption) rfl ?_) | ((with_reducible show wpAny _ _ (storeName _ _ _) _ _ _); refine rSt (by assumption) ?_; intro _ _) | ((with_reducible show wpAny _ _ (isTrue (Expr.Compare _ [_] [_] _) _ _) _ _ _); refine wpAny_isTrue_Compare1 ?_) | with_reducible refine wpAny_truthy_bool ?_ | with_reducible refine rEq ?_ | ((with_reducible show wpAny _ _ (eval (Expr.Call _ _ [] _) _) _ _ _); refine Call_ ?_) | ((with_reducible show wpAny _ _ (spliced (backTo _ (starEach (_ :: _) _))) _ _ _); refine spliced_more ?_) | ((with_reducible show wpAny _ _ (spliced (backTo _ (starEach [] _))) _ _ _); refine spliced_none ?_) | with_reducible refine wpAny_IfExp ?_) | (dsimp only; first | ((with_reducible show wpAny _ _ (execs (Stmt.Assign [Expr.Name _ _] _ _ :: _) _) _ _ _); refine rAs ?_) | with_reducible refine rRet ?_ | with_reducible refine rIf ?_ | with_reducible refine wpAny_BinOp ?_ | with_reducible refine rI ?_ | with_reducible refine rS ?_ | ((with_reducible show wpAny _ _ (eval (Expr.Name _ _) _) _ _ _); refine nL (by assumption) rfl ?_) | ((with_reducible show wpAny _ _ (storeName _ _ _) _ _ _); refine rSt (by assumption) ?_; intro _ _) | ((with_reducible show wpAny _ _ (isTrue (Expr.Compare _ [_] [_] _) _ _) _ _ _); refine wpAny_isTrue_Compare1 ?_) | with_reducible refine wpAny_truthy_bool ?_ | with_reducible refine rEq ?_ | ((with_reducible show wpAny _ _ (eval (Expr.Call _ _ [] _) _) _ _ _); refine Call_ ?_) | ((with_reducible show wpAny _ _ (spliced (backTo _ (starEach (_ :: _) _))) _ _ _); refine spliced_more ?_) | ((with_reducible show wpAny _ _ (spliced (backTo _ (starEach [] _))) _ _ _); refine spliced_none ?_) | with_reducible refine wpAny_IfExp ?_))
  refine rBL ?_
  refine rCM0 ?_
  refine rBL' ?_
  repeat (first | (first | ((with_reducible show wpAny _ _ (execs (Stmt.Assign [Expr.Name _ _] _ _ :: _) _) _ _ _); refine rAs ?_) | with_reducible refine rRet ?_ | with_reducible refine rIf ?_ | with_reducible refine wpAny_BinOp ?_ | with_reducible refine rI ?_ | with_reducible refine rS ?_ | ((with_reducible show wpAny _ _ (eval (Expr.Name _ _) _) _ _ _); refine nL (by assumption) rfl ?_) | ((with_reducible show wpAny _ _ (storeName _ _ _) _ _ _); refine rSt (by assumption) ?_; intro _ _) | ((with_reducible show wpAny _ _ (isTrue (Expr.Compare _ [_] [_] _) _ _) _ _ _); refine wpAny_isTrue_Compare1 ?_) | with_reducible refine wpAny_truthy_bool ?_ | with_reducible refine rEq ?_ | ((with_reducible show wpAny _ _ (eval (Expr.Call _ _ [] _) _) _ _ _); refine Call_ ?_) | ((with_reducible show wpAny _ _ (spliced (backTo _ (starEach (_ :: _) _))) _ _ _); refine spliced_more ?_) | ((with_reducible show wpAny _ _ (spliced (backTo _ (starEach [] _))) _ _ _); refine spliced_none ?_) | with_reducible refine wpAny_IfExp ?_) | (dsimp only; first | ((with_reducible show wpAny _ _ (execs (Stmt.Assign [Expr.Name _ _] _ _ :: _) _) _ _ _); refine rAs ?_) | with_reducible refine rRet ?_ | with_reducible refine rIf ?_ | with_reducible refine wpAny_BinOp ?_ | with_reducible refine rI ?_ | with_reducible refine rS ?_ | ((with_reducible show wpAny _ _ (eval (Expr.Name _ _) _) _ _ _); refine nL (by assumption) rfl ?_) | ((with_reducible show wpAny _ _ (storeName _ _ _) _ _ _); refine rSt (by assumption) ?_; intro _ _) | ((with_reducible show wpAny _ _ (isTrue (Expr.Compare _ [_] [_] _) _ _) _ _ _); refine wpAny_isTrue_Compare1 ?_) | with_reducible refine wpAny_truthy_bool ?_ | with_reducible refine rEq ?_ | ((with_reducible show wpAny _ _ (eval (Expr.Call _ _ [] _) _) _ _ _); refine Call_ ?_) | ((with_reducible show wpAny _ _ (spliced (backTo _ (starEach (_ :: _) _))) _ _ _); refine spliced_more ?_) | ((with_reducible show wpAny _ _ (spliced (backTo _ (starEach [] _))) _ _ _); refine spliced_none ?_) | with_reducible refine wpAny_IfExp ?_))
  refine subT ((Builtin.Int.intBits (a : Int) : Int) - n) rfl ?_
  refine nG G F rfl ?_
  refine rLe ?_
  repeat (first | (first | ((with_reducible show wpAny _ _ (execs (Stmt.Assign [Expr.Name _ _] _ _ :: _) _) _ _ _); refine rAs ?_) | with_reducible refine rRet ?_ | with_reducible refine rIf ?_ | with_reducible refine wpAny_BinOp ?_ | with_reducible refine rI ?_ | with_reducible refine rS ?_ | ((with_reducible show wpAny _ _ (eval (Expr.Name _ _) _) _ _ _); refine nL (by assumption) rfl ?_) | ((with_reducible show wpAny _ _ (storeName _ _ _) _ _ _); refine rSt (by assumption) ?_; intro _ _) | ((with_reducible show wpAny _ _ (isTrue (Expr.Compare _ [_] [_] _) _ _) _ _ _); refine wpAny_isTrue_Compare1 ?_) | with_reducible refine wpAny_truthy_bool ?_ | with_reducible refine rEq ?_ | ((with_reducible show wpAny _ _ (eval (Expr.Call _ _ [] _) _) _ _ _); refine Call_ ?_) | ((with_reducible show wpAny _ _ (spliced (backTo _ (starEach (_ :: _) _))) _ _ _); refine spliced_more ?_) | ((with_reducible show wpAny _ _ (spliced (backTo _ (starEach [] _))) _ _ _); refine spliced_none ?_) | with_reducible refine wpAny_IfExp ?_) | (dsimp only; first | ((with_reducible show wpAny _ _ (execs (Stmt.Assign [Expr.Name _ _] _ _ :: _) _) _ _ _); refine rAs ?_) | with_reducible refine rRet ?_ | with_reducible refine rIf ?_ | with_reducible refine wpAny_BinOp ?_ | with_reducible refine rI ?_ | with_reducible refine rS ?_ | ((with_reducible show wpAny _ _ (eval (Expr.Name _ _) _) _ _ _); refine nL (by assumption) rfl ?_) | ((with_reducible show wpAny _ _ (storeName _ _ _) _ _ _); refine rSt (by assumption) ?_; intro _ _) | ((with_reducible show wpAny _ _ (isTrue (Expr.Compare _ [_] [_] _) _ _) _ _ _); refine wpAny_isTrue_Compare1 ?_) | with_reducible refine wpAny_truthy_bool ?_ | with_reducible refine rEq ?_ | ((with_reducible show wpAny _ _ (eval (Expr.Call _ _ [] _) _) _ _ _); refine Call_ ?_) | ((with_reducible show wpAny _ _ (spliced (backTo _ (starEach (_ :: _) _))) _ _ _); refine spliced_more ?_) | ((with_reducible show wpAny _ _ (spliced (backTo _ (starEach [] _))) _ _ _); refine spliced_none ?_) | with_reducible refine wpAny_IfExp ?_))
  refine iteT (by simp; (clear hb hl; omega)) ?_
  repeat (first | (first | ((with_reducible show wpAny _ _ (execs (Stmt.Assign [Expr.Name _ _] _ _ :: _) _) _ _ _); refine rAs ?_) | with_reducible refine rRet ?_ | with_reducible refine rIf ?_ | with_reducible refine wpAny_BinOp ?_ | with_reducible refine rI ?_ | with_reducible refine rS ?_ | ((with_reducible show wpAny _ _ (eval (Expr.Name _ _) _) _ _ _); refine nL (by assumption) rfl ?_) | ((with_reducible show wpAny _ _ (storeName _ _ _) _ _ _); refine rSt (by assumption) ?_; intro _ _) | ((with_reducible show wpAny _ _ (isTrue (Expr.Compare _ [_] [_] _) _ _) _ _ _); refine wpAny_isTrue_Compare1 ?_) | with_reducible refine wpAny_truthy_bool ?_ | with_reducible refine rEq ?_ | ((with_reducible show wpAny _ _ (eval (Expr.Call _ _ [] _) _) _ _ _); refine Call_ ?_) | ((with_reducible show wpAny _ _ (spliced (backTo _ (starEach (_ :: _) _))) _ _ _); refine spliced_more ?_) | ((with_reducible show wpAny _ _ (spliced (backTo _ (starEach [] _))) _ _ _); refine spliced_none ?_) | with_reducible refine wpAny_IfExp ?_) | (dsimp only; first | ((with_reducible show wpAny _ _ (execs (Stmt.Assign [Expr.Name _ _] _ _ :: _) _) _ _ _); refine rAs ?_) | with_reducible refine rRet ?_ | with_reducible refine rIf ?_ | with_reducible refine wpAny_BinOp ?_ | with_reducible refine rI ?_ | with_reducible refine rS ?_ | ((with_reducible show wpAny _ _ (eval (Expr.Name _ _) _) _ _ _); refine nL (by assumption) rfl ?_) | ((with_reducible show wpAny _ _ (storeName _ _ _) _ _ _); refine rSt (by assumption) ?_; intro _ _) | ((with_reducible show wpAny _ _ (isTrue (Expr.Compare _ [_] [_] _) _ _) _ _ _); refine wpAny_isTrue_Compare1 ?_) | with_reducible refine wpAny_truthy_bool ?_ | with_reducible refine rEq ?_ | ((with_reducible show wpAny _ _ (eval (Expr.Call _ _ [] _) _) _ _ _); refine Call_ ?_) | ((with_reducible show wpAny _ _ (spliced (backTo _ (starEach (_ :: _) _))) _ _ _); refine spliced_more ?_) | ((with_reducible show wpAny _ _ (spliced (backTo _ (starEach [] _))) _ _ _); refine spliced_none ?_) | with_reducible refine wpAny_IfExp ?_))
  refine nB G F rfl rfl ?_
  refine PyProof.Rows.callWith_builtin1 ?_
  repeat (first | (first | ((with_reducible show wpAny _ _ (execs (Stmt.Assign [Expr.Name _ _] _ _ :: _) _) _ _ _); refine rAs ?_) | with_reducible refine rRet ?_ | with_reducible refine rIf ?_ | with_reducible refine wpAny_BinOp ?_ | with_reducible refine rI ?_ | with_reducible refine rS ?_ | ((with_reducible show wpAny _ _ (eval (Expr.Name _ _) _) _ _ _); refine nL (by assumption) rfl ?_) | ((with_reducible show wpAny _ _ (storeName _ _ _) _ _ _); refine rSt (by assumption) ?_; intro _ _) | ((with_reducible show wpAny _ _ (isTrue (Expr.Compare _ [_] [_] _) _ _) _ _ _); refine wpAny_isTrue_Compare1 ?_) | with_reducible refine wpAny_truthy_bool ?_ | with_reducible refine rEq ?_ | ((with_reducible show wpAny _ _ (eval (Expr.Call _ _ [] _) _) _ _ _); refine Call_ ?_) | ((with_reducible show wpAny _ _ (spliced (backTo _ (starEach (_ :: _) _))) _ _ _); refine spliced_more ?_) | ((with_reducible show wpAny _ _ (spliced (backTo _ (starEach [] _))) _ _ _); refine spliced_none ?_) | with_reducible refine wpAny_IfExp ?_) | (dsimp only; first | ((with_reducible show wpAny _ _ (execs (Stmt.Assign [Expr.Name _ _] _ _ :: _) _) _ _ _); refine rAs ?_) | with_reducible refine rRet ?_ | with_reducible refine rIf ?_ | with_reducible refine wpAny_BinOp ?_ | with_reducible refine rI ?_ | with_reducible refine rS ?_ | ((with_reducible show wpAny _ _ (eval (Expr.Name _ _) _) _ _ _); refine nL (by assumption) rfl ?_) | ((with_reducible show wpAny _ _ (storeName _ _ _) _ _ _); refine rSt (by assumption) ?_; intro _ _) | ((with_reducible show wpAny _ _ (isTrue (Expr.Compare _ [_] [_] _) _ _) _ _ _); refine wpAny_isTrue_Compare1 ?_) | with_reducible refine wpAny_truthy_bool ?_ | with_reducible refine rEq ?_ | ((with_reducible show wpAny _ _ (eval (Expr.Call _ _ [] _) _) _ _ _); refine Call_ ?_) | ((with_reducible show wpAny _ _ (spliced (backTo _ (starEach (_ :: _) _))) _ _ _); refine spliced_more ?_) | ((with_reducible show wpAny _ _ (spliced (backTo _ (starEach [] _))) _ _ _); refine spliced_none ?_) | with_reducible refine wpAny_IfExp ?_))
  refine rDivmod hb hl ?_
  intro u1 u2 tk2
  have F2 := F.psh { cls := .type "tuple", data := .seq #[.int (a / b : Nat) u1, .int (a % b : Nat) u2] }
  have q := fun tks => h _ _ _ _ tks F2.ok F2.kp F.gsz ⟨_, F2.at 0 rfl, rfl, _, rfl⟩
  exact q _
end Mine

namespace Mine
theorem digs_get (n : Nat) : ∀ k x i, i < k → (digs n k x)[i]? = some (((x / 2 ^ (n * i)) % 2 ^ n : Nat) : Int)
  | k + 1, x, 0, _ => by simp [digs]
  | k + 1, x, i + 1, h => by
    rw [digs, List.getElem?_cons_succ, digs_get n k (x / 2 ^ n) i (by omega), Nat.div_div_eq_div_mul, ← Nat.pow_add, Nat.mul_add, Nat.mul_one, Nat.add_comm n]
theorem step_div (n b A d : Nat) (hb : 0 < b) (hd : d < 2 ^ n) (hbn : b < 2 ^ n) :
    (A % b * 2 ^ n + d) / b < 2 ^ n ∧ (A * 2 ^ n + d) / b = A / b * 2 ^ n + (A % b * 2 ^ n + d) / b ∧ (A % b * 2 ^ n + d) % b = (A * 2 ^ n + d) % b := by
  have h1 : A % b < b := Nat.mod_lt _ hb
  have h2 : A % b * 2 ^ n + d < b * 2 ^ n := by
    have : (A % b + 1) * 2 ^ n ≤ b * 2 ^ n := Nat.mul_le_mul_right _ h1
    rw [Nat.add_mul, Nat.one_mul] at this
    (clear hb hbn h1; omega)
  have e : A * 2 ^ n + d = (A % b * 2 ^ n + d) + b * (A / b * 2 ^ n) := by
    have := Nat.mod_add_div A b
    have h3 : A * 2 ^ n = (A % b + b * (A / b)) * 2 ^ n := by rw [this]
    rw [h3, Nat.add_mul, Nat.mul_assoc]; (clear hb hd hbn h1 h2 this h3; omega)
  refine ⟨by rw [Nat.div_lt_iff_lt_mul hb, Nat.mul_comm (2 ^ n) b]; exact h2, ?_, ?_⟩
  · rw [e, Nat.add_mul_div_left _ _ hb]; (clear hb hd hbn h1 h2 e; omega)
  · rw [e, Nat.add_mul_mod_self_left]
theorem c_dmp {w : World} {mg mb : Str → Option Value} {g0 : Heap} (G : Gd w mg mb g0) {A : Around} {R : Result → Shared → Prop} {hp : Heap} {gn : Array GenState} {dr : Drawn} {tk0 : Nat} {os : OsState} (k : OK g0 hp) {a b n : Nat} {t1 t2 : Tok}
  (hbn : Builtin.Int.intBits (b : Int) = n) (rm : Rm A (cnt n a + 20)) (hb : 0 < b) (hn : n ≤ 1000) (hc : cnt n a ≤ 1000)
 (h : ∀ t u1 u2 h' tks, OK g0 h' → Kp [] hp h' → hp.objs.size ≤ t → h'.IsTuple t #[.int (a / b : Nat) u1, .int (a % b : Nat) u2] → R (.ok (.ret (.ref t))) ⟨h', gn, dr, tks, os⟩) : codeAny (model PP w) A (.call (.ref aDMP) ⟨[.int a t1, .int b t2], []⟩) R ⟨hp, gn, dr, tk0, os⟩ := by
  have hblt : b < 2 ^ n := by
    have := intBits_le_iff.mp (Nat.le_of_eq hbn)
    rwa [Int.natAbs_natCast] at this
  have hn0 : 0 < n := by
    rcases Nat.eq_zero_or_pos n with z | z
    · subst z; simp at hblt; (clear hbn hn hc; omega)
    · exact z
  refine ent (T := []) (n := cnt n a + 19) (binds := [("a", .int a t1), ("b", .int b t2)]) G k rm (k.at0 G rfl) rfl (k.code G rfl) rfl rfl rfl rfl rfl rfl rfl ?_
  intro h1 tk1 F rm1 kk
  generalize hLL : hp.objs.size = L at *
  generalize hcc : cnt n a = c at *
  repeat (first | (first | ((with_reducible show wpAny _ _ (execs (Stmt.Assign [Expr.Name _ _] _ _ :: _) _) _ _ _); refine rAs ?_) | with_reducible refine rRet ?_ | with_reducible refine rIf ?_ | with_reducible refine wpAny_BinOp ?_ | with_reducible refine rI ?_ | with_reducible refine rS ?_ | ((with_reducible show wpAny _ _ (eval (Expr.Name _ _) _) _ _ _); refine nL (by assumption) rfl ?_) | ((with_reducible show wpAny _ _ (storeName _ _ _) _ _ _); refine rSt (by assumption) ?_; intro _ _) | ((with_reducible show wpAny _ _ (isTrue (Expr.Compare _ [_] [_] _) _ _) _ _ _); refine wpAny_isTrue_Compare1 ?_) | with_reducible refine wpAny_truthy_bool ?_ | with_reducible refine rEq ?_ | ((with_reducible show wpAny _ _ (eval (Expr.Call _ _ [] _) _) _ _ _); refine Call_ ?_) | ((with_reducible show wpAny _ _ (spliced (backTo _ (starEach (_ :: _) _))) _ _ _); refine spliced_more ?_) | ((with_reducible show wpAny _ _ (spliced (backTo _ (starEach [] _))) _ _ _); refine spliced_none ?_) | with_reducible refine wpAny_IfExp ?_) | (dsimp only; first | ((with_reducible show wpAny _ _ (execs (Stmt.Assign [Expr.Name _ _] _ _ :: _) _) _ _ _); refine rAs ?_) | with_reducible refine rRet ?_ | with_reducible refine rIf ?_ | with_reducible refine wpAny_BinOp ?_ | with_reducible refine rI ?_ | with_reducible refine rS ?_ | ((with_reducible show wpAny _ _ (eval (Expr.Name _ _) _) _ _ _); refine nL (by assumption) rfl ?_) | ((with_reducible show wpAny _ _ (storeName _ _ _) _ _ _); refine rSt (by assumption) ?_; intro _ _) | ((with_reducible show wpAny _ _ (isTrue (Expr.Compare _ [_] [_] _) _ _) _ _ _); refine wpAny_isTrue_Compare1 ?_) | with_reducible refine wpAny_truthy_bool ?_ | with_reducible refine rEq ?_ | ((with_reducible show wpAny _ _ (eval (Expr.Call _ _ [] _) _) _ _ _); refine Call_ ?_) | ((with_reducible show wpAny _ _ (spliced (backTo _ (starEach (_ :: _) _))) _ _ _); refine spliced_more ?_) | ((with_reducible show wpAny _ _ (spliced (backTo _ (starEach [] _))) _ _ _); refine spliced_none ?_) | with_reducible refine wpAny_IfExp ?_))
  refine rM ?_
  repeat (first | (first | ((with_reducible show wpAny _ _ (execs (Stmt.Assign [Expr.Name _ _] _ _ :: _) _) _ _ _); refine rAs ?_) | with_reducible refine rRet ?_ | with_reducible refine rIf ?_ | with_reducible refine wpAny_BinOp ?_ | with_reducible refine rI ?_ | with_reducible refine rS ?_ | ((with_reducible show wpAny _ _ (eval (Expr.Name _ _) _) _ _ _); refine nL (by assumption) rfl ?_) | ((with_reducible show wpAny _ _ (storeName _ _ _) _ _ _); refine rSt (by assumption) ?_; intro _ _) | ((with_reducible show wpAny _ _ (isTrue (Expr.Compare _ [_] [_] _) _ _) _ _ _); refine wpAny_isTrue_Compare1 ?_) | with_reducible refine wpAny_truthy_bool ?_ | with_reducible refine rEq ?_ | ((with_reducible show wpAny _ _ (eval (Expr.Call _ _ [] _) _) _ _ _); refine Call_ ?_) | ((with_reducible show wpAny _ _ (spliced (backTo _ (starEach (_ :: _) _))) _ _ _); refine spliced_more ?_) | ((with_reducible show wpAny _ _ (spliced (backTo _ (starEach [] _))) _ _ _); refine spliced_none ?_) | with_reducible refine wpAny_IfExp ?_) | (dsimp only; first | ((with_reducible show wpAny _ _ (execs (Stmt.Assign [Expr.Name _ _] _ _ :: _) _) _ _ _); refine rAs ?_) | with_reducible refine rRet ?_ | with_reducible refine rIf ?_ | with_reducible refine wpAny_BinOp ?_ | with_reducible refine rI ?_ | with_reducible refine rS ?_ | ((with_reducible show wpAny _ _ (eval (Expr.Name _ _) _) _ _ _); refine nL (by assumption) rfl ?_) | ((with_reducible show wpAny _ _ (storeName _ _ _) _ _ _); refine rSt (by assumption) ?_; intro _ _) | ((with_reducible show wpAny _ _ (isTrue (Expr.Compare _ [_] [_] _) _ _) _ _ _); refine wpAny_isTrue_Compare1 ?_) | with_reducible refine wpAny_truthy_bool ?_ | with_reducible refine rEq ?_ | ((with_reducible show wpAny _ _ (eval (Expr.Call _ _ [] _) _) _ _ _); refine Call_ ?_) | ((with_reducible show wpAny _ _ (spliced (backTo _ (starEach (_ :: _) _))) _ _ _); refine spliced_more ?_) | ((with_reducible show wpAny _ _ (spliced (backTo _ (starEach [] _))) _ _ _); refine spliced_none ?_) | with_reducible refine wpAny_IfExp ?_))
  refine rBL ?_
  refine rCM0 ?_
  refine rBL' ?_
  rw [hbn]
  repeat (first | (first | ((with_reducible show wpAny _ _ (execs (Stmt.Assign [Expr.Name _ _] _ _ :: _) _) _ _ _); refine rAs ?_) | with_reducible refine rRet ?_ | with_reducible refine rIf ?_ | with_reducible refine wpAny_BinOp ?_ | with_reducible refine rI ?_ | with_reducible refine rS ?_ | ((with_reducible show wpAny _ _ (eval (Expr.Name _ _) _) _ _ _); refine nL (by assumption) rfl ?_) | ((with_reducible show wpAny _ _ (storeName _ _ _) _ _ _); refine rSt (by assumption) ?_; intro _ _) | ((with_reducible show wpAny _ _ (isTrue (Expr.Compare _ [_] [_] _) _ _) _ _ _); refine wpAny_isTrue_Compare1 ?_) | with_reducible refine wpAny_truthy_bool ?_ | with_reducible refine rEq ?_ | ((with_reducible show wpAny _ _ (eval (Expr.Call _ _ [] _) _) _ _ _); refine Call_ ?_) | ((with_reducible show wpAny _ _ (spliced (backTo _ (starEach (_ :: _) _))) _ _ _); refine spliced_more ?_) | ((with_reducible show wpAny _ _ (spliced (backTo _ (starEach [] _))) _ _ _); refine spliced_none ?_) | with_reducible refine wpAny_IfExp ?_) | (dsimp only; first | ((with_reducible show wpAny _ _ (execs (Stmt.Assign [Expr.Name _ _] _ _ :: _) _) _ _ _); refine rAs ?_) | with_reducible refine rRet ?_ | with_reducible refine rIf ?_ | with_reducible refine wpAny_BinOp ?_ | with_reducible refine rI ?_ | with_reducible refine rS ?_ | ((with_reducible show wpAny _ _ (eval (Expr.Name _ _) _) _ _ _); refine nL (by assumption) rfl ?_) | ((with_reducible show wpAny _ _ (storeName _ _ _) _ _ _); refine rSt (by assumption) ?_; intro _ _) | ((with_reducible show wpAny _ _ (isTrue (Expr.Compare _ [_] [_] _) _ _) _ _ _); refine wpAny_isTrue_Compare1 ?_) | with_reducible refine wpAny_truthy_bool ?_ | with_reducible refine rEq ?_ | ((with_reducible show wpAny _ _ (eval (Expr.Call _ _ [] _) _) _ _ _); refine Call_ ?_) | ((with_reducible show wpAny _ _ (spliced (backTo _ (starEach (_ :: _) _))) _ _ _); refine spliced_more ?_) | ((with_reducible show wpAny _ _ (spliced (backTo _ (starEach [] _))) _ _ _); refine spliced_none ?_) | with_reducible refine wpAny_IfExp ?_))
  rename_i h2 F2
  refine nG G F2 rfl ?_
  refine rCW (F2.ok.at0 G rfl) rfl ?_
  repeat (first | (first | ((with_reducible show wpAny _ _ (execs (Stmt.Assign [Expr.Name _ _] _ _ :: _) _) _ _ _); refine rAs ?_) | with_reducible refine rRet ?_ | with_reducible refine rIf ?_ | with_reducible refine wpAny_BinOp ?_ | with_reducible refine rI ?_ | with_reducible refine rS ?_ | ((with_reducible show wpAny _ _ (eval (Expr.Name _ _) _) _ _ _); refine nL (by assumption) rfl ?_) | ((with_reducible show wpAny _ _ (storeName _ _ _) _ _ _); refine rSt (by assumption) ?_; intro _ _) | ((with_reducible show wpAny _ _ (isTrue (Expr.Compare _ [_] [_] _) _ _) _ _ _); refine wpAny_isTrue_Compare1 ?_) | with_reducible refine wpAny_truthy_bool ?_ | with_reducible refine rEq ?_ | ((with_reducible show wpAny _ _ (eval (Expr.Call _ _ [] _) _) _ _ _); refine Call_ ?_) | ((with_reducible show wpAny _ _ (spliced (backTo _ (starEach (_ :: _) _))) _ _ _); refine spliced_more ?_) | ((with_reducible show wpAny _ _ (spliced (backTo _ (starEach [] _))) _ _ _); refine spliced_none ?_) | with_reducible refine wpAny_IfExp ?_) | (dsimp only; first | ((with_reducible show wpAny _ _ (execs (Stmt.Assign [Expr.Name _ _] _ _ :: _) _) _ _ _); refine rAs ?_) | with_reducible refine rRet ?_ | with_reducible refine rIf ?_ | with_reducible refine wpAny_BinOp ?_ | with_reducible refine rI ?_ | with_reducible refine rS ?_ | ((with_reducible show wpAny _ _ (eval (Expr.Name _ _) _) _ _ _); refine nL (by assumption) rfl ?_) | ((with_reducible show wpAny _ _ (storeName _ _ _) _ _ _); refine rSt (by assumption) ?_; intro _ _) | ((with_reducible show wpAny _ _ (isTrue (Expr.Compare _ [_] [_] _) _ _) _ _ _); refine wpAny_isTrue_Compare1 ?_) | with_reducible refine wpAny_truthy_bool ?_ | with_reducible refine rEq ?_ | ((with_reducible show wpAny _ _ (eval (Expr.Call _ _ [] _) _) _ _ _); refine Call_ ?_) | ((with_reducible show wpAny _ _ (spliced (backTo _ (starEach (_ :: _) _))) _ _ _); refine spliced_more ?_) | ((with_reducible show wpAny _ _ (spliced (backTo _ (starEach [] _))) _ _ _); refine spliced_none ?_) | with_reducible refine wpAny_IfExp ?_))
  refine ⟨F2.ok.at0 G rfl, ?_⟩
  refine c_i2d G F2.ok (by rw [hcc]; exact rm1.le (by (clear hbn hb hn hblt hn0 hLL hcc hc; omega))) hn0 hn (by rw [hcc]; exact hc) ?_
  intro l vs h3 tk3 k3 K3 hl hlis hints
  rw [hcc] at hints
  obtain ⟨ol, el, cl, en, dl⟩ := hlis
  have F3 := (F2.call k3 K3).add el (Nat.le_trans F2.gsz hl) (F2.fresh hl).1 (F2.fresh hl).2
  repeat (first | (first | ((with_reducible show wpAny _ _ (execs (Stmt.Assign [Expr.Name _ _] _ _ :: _) _) _ _ _); refine rAs ?_) | with_reducible refine rRet ?_ | with_reducible refine rIf ?_ | with_reducible refine wpAny_BinOp ?_ | with_reducible refine rI ?_ | with_reducible refine rS ?_ | ((with_reducible show wpAny _ _ (eval (Expr.Name _ _) _) _ _ _); refine nL (by assumption) rfl ?_) | ((with_reducible show wpAny _ _ (storeName _ _ _) _ _ _); refine rSt (by assumption) ?_; intro _ _) | ((with_reducible show wpAny _ _ (isTrue (Expr.Compare _ [_] [_] _) _ _) _ _ _); refine wpAny_isTrue_Compare1 ?_) | with_reducible refine wpAny_truthy_bool ?_ | with_reducible refine rEq ?_ | ((with_reducible show wpAny _ _ (eval (Expr.Call _ _ [] _) _) _ _ _); refine Call_ ?_) | ((with_reducible show wpAny _ _ (spliced (backTo _ (starEach (_ :: _) _))) _ _ _); refine spliced_more ?_) | ((with_reducible show wpAny _ _ (spliced (backTo _ (starEach [] _))) _ _ _); refine spliced_none ?_) | with_reducible refine wpAny_IfExp ?_) | (dsimp only; first | ((with_reducible show wpAny _ _ (execs (Stmt.Assign [Expr.Name _ _] _ _ :: _) _) _ _ _); refine rAs ?_) | with_reducible refine rRet ?_ | with_reducible refine rIf ?_ | with_reducible refine wpAny_BinOp ?_ | with_reducible refine rI ?_ | with_reducible refine rS ?_ | ((with_reducible show wpAny _ _ (eval (Expr.Name _ _) _) _ _ _); refine nL (by assumption) rfl ?_) | ((with_reducible show wpAny _ _ (storeName _ _ _) _ _ _); refine rSt (by assumption) ?_; intro _ _) | ((with_reducible show wpAny _ _ (isTrue (Expr.Compare _ [_] [_] _) _ _) _ _ _); refine wpAny_isTrue_Compare1 ?_) | with_reducible refine wpAny_truthy_bool ?_ | with_reducible refine rEq ?_ | ((with_reducible show wpAny _ _ (eval (Expr.Call _ _ [] _) _) _ _ _); refine Call_ ?_) | ((with_reducible show wpAny _ _ (spliced (backTo _ (starEach (_ :: _) _))) _ _ _); refine spliced_more ?_) | ((with_reducible show wpAny _ _ (spliced (backTo _ (starEach [] _))) _ _ _); refine spliced_none ?_) | with_reducible refine wpAny_IfExp ?_))
  rename_i h4 F4
  refine rList ?_
  repeat (first | (first | ((with_reducible show wpAny _ _ (execs (Stmt.Assign [Expr.Name _ _] _ _ :: _) _) _ _ _); refine rAs ?_) | with_reducible refine rRet ?_ | with_reducible refine rIf ?_ | with_reducible refine wpAny_BinOp ?_ | with_reducible refine rI ?_ | with_reducible refine rS ?_ | ((with_reducible show wpAny _ _ (eval (Expr.Name _ _) _) _ _ _); refine nL (by assumption) rfl ?_) | ((with_reducible show wpAny _ _ (storeName _ _ _) _ _ _); refine rSt (by assumption) ?_; intro _ _) | ((with_reducible show wpAny _ _ (isTrue (Expr.Compare _ [_] [_] _) _ _) _ _ _); refine wpAny_isTrue_Compare1 ?_) | with_reducible refine wpAny_truthy_bool ?_ | with_reducible refine rEq ?_ | ((with_reducible show wpAny _ _ (eval (Expr.Call _ _ [] _) _) _ _ _); refine Call_ ?_) | ((with_reducible show wpAny _ _ (spliced (backTo _ (starEach (_ :: _) _))) _ _ _); refine spliced_more ?_) | ((with_reducible show wpAny _ _ (spliced (backTo _ (starEach [] _))) _ _ _); refine spliced_none ?_) | with_reducible refine wpAny_IfExp ?_) | (dsimp only; first | ((with_reducible show wpAny _ _ (execs (Stmt.Assign [Expr.Name _ _] _ _ :: _) _) _ _ _); refine rAs ?_) | with_reducible refine rRet ?_ | with_reducible refine rIf ?_ | with_reducible refine wpAny_BinOp ?_ | with_reducible refine rI ?_ | with_reducible refine rS ?_ | ((with_reducible show wpAny _ _ (eval (Expr.Name _ _) _) _ _ _); refine nL (by assumption) rfl ?_) | ((with_reducible show wpAny _ _ (storeName _ _ _) _ _ _); refine rSt (by assumption) ?_; intro _ _) | ((with_reducible show wpAny _ _ (isTrue (Expr.Compare _ [_] [_] _) _ _) _ _ _); refine wpAny_isTrue_Compare1 ?_) | with_reducible refine wpAny_truthy_bool ?_ | with_reducible refine rEq ?_ | ((with_reducible show wpAny _ _ (eval (Expr.Call _ _ [] _) _) _ _ _); refine Call_ ?_) | ((with_reducible show wpAny _ _ (spliced (backTo _ (starEach (_ :: _) _))) _ _ _); refine spliced_more ?_) | ((with_reducible show wpAny _ _ (spliced (backTo _ (starEach [] _))) _ _ _); refine spliced_none ?_) | with_reducible refine wpAny_IfExp ?_))
  refine rNewL ?_ (by simp [sizeLine])
  have F5 := F4.psh (LO [] 0)
  generalize hlq : h4.objs.size = lq at *
  repeat (first | (first | ((with_reducible show wpAny _ _ (execs (Stmt.Assign [Expr.Name _ _] _ _ :: _) _) _ _ _); refine rAs ?_) | with_reducible refine rRet ?_ | with_reducible refine rIf ?_ | with_reducible refine wpAny_BinOp ?_ | with_reducible refine rI ?_ | with_reducible refine rS ?_ | ((with_reducible show wpAny _ _ (eval (Expr.Name _ _) _) _ _ _); refine nL (by assumption) rfl ?_) | ((with_reducible show wpAny _ _ (storeName _ _ _) _ _ _); refine rSt (by assumption) ?_; intro _ _) | ((with_reducible show wpAny _ _ (isTrue (Expr.Compare _ [_] [_] _) _ _) _ _ _); refine wpAny_isTrue_Compare1 ?_) | with_reducible refine wpAny_truthy_bool ?_ | with_reducible refine rEq ?_ | ((with_reducible show wpAny _ _ (eval (Expr.Call _ _ [] _) _) _ _ _); refine Call_ ?_) | ((with_reducible show wpAny _ _ (spliced (backTo _ (starEach (_ :: _) _))) _ _ _); refine spliced_more ?_) | ((with_reducible show wpAny _ _ (spliced (backTo _ (starEach [] _))) _ _ _); refine spliced_none ?_) | with_reducible refine wpAny_IfExp ?_) | (dsimp only; first | ((with_reducible show wpAny _ _ (execs (Stmt.Assign [Expr.Name _ _] _ _ :: _) _) _ _ _); refine rAs ?_) | with_reducible refine rRet ?_ | with_reducible refine rIf ?_ | with_reducible refine wpAny_BinOp ?_ | with_reducible refine rI ?_ | with_reducible refine rS ?_ | ((with_reducible show wpAny _ _ (eval (Expr.Name _ _) _) _ _ _); refine nL (by assumption) rfl ?_) | ((with_reducible show wpAny _ _ (storeName _ _ _) _ _ _); refine rSt (by assumption) ?_; intro _ _) | ((with_reducible show wpAny _ _ (isTrue (Expr.Compare _ [_] [_] _) _ _) _ _ _); refine wpAny_isTrue_Compare1 ?_) | with_reducible refine wpAny_truthy_bool ?_ | with_reducible refine rEq ?_ | ((with_reducible show wpAny _ _ (eval (Expr.Call _ _ [] _) _) _ _ _); refine Call_ ?_) | ((with_reducible show wpAny _ _ (spliced (backTo _ (starEach (_ :: _) _))) _ _ _); refine spliced_more ?_) | ((with_reducible show wpAny _ _ (spliced (backTo _ (starEach [] _))) _ _ _); refine spliced_none ?_) | with_reducible refine wpAny_IfExp ?_))
  rename_i h6 F6
  refine rForL ?_
  repeat (first | (first | ((with_reducible show wpAny _ _ (execs (Stmt.Assign [Expr.Name _ _] _ _ :: _) _) _ _ _); refine rAs ?_) | with_reducible refine rRet ?_ | with_reducible refine rIf ?_ | with_reducible refine wpAny_BinOp ?_ | with_reducible refine rI ?_ | with_reducible refine rS ?_ | ((with_reducible show wpAny _ _ (eval (Expr.Name _ _) _) _ _ _); refine nL (by assumption) rfl ?_) | ((with_reducible show wpAny _ _ (storeName _ _ _) _ _ _); refine rSt (by assumption) ?_; intro _ _) | ((with_reducible show wpAny _ _ (isTrue (Expr.Compare _ [_] [_] _) _ _) _ _ _); refine wpAny_isTrue_Compare1 ?_) | with_reducible refine wpAny_truthy_bool ?_ | with_reducible refine rEq ?_ | ((with_reducible show wpAny _ _ (eval (Expr.Call _ _ [] _) _) _ _ _); refine Call_ ?_) | ((with_reducible show wpAny _ _ (spliced (backTo _ (starEach (_ :: _) _))) _ _ _); refine spliced_more ?_) | ((with_reducible show wpAny _ _ (spliced (backTo _ (starEach [] _))) _ _ _); refine spliced_none ?_) | with_reducible refine wpAny_IfExp ?_) | (dsimp only; first | ((with_reducible show wpAny _ _ (execs (Stmt.Assign [Expr.Name _ _] _ _ :: _) _) _ _ _); refine rAs ?_) | with_reducible refine rRet ?_ | with_reducible refine rIf ?_ | with_reducible refine wpAny_BinOp ?_ | with_reducible refine rI ?_ | with_reducible refine rS ?_ | ((with_reducible show wpAny _ _ (eval (Expr.Name _ _) _) _ _ _); refine nL (by assumption) rfl ?_) | ((with_reducible show wpAny _ _ (storeName _ _ _) _ _ _); refine rSt (by assumption) ?_; intro _ _) | ((with_reducible show wpAny _ _ (isTrue (Expr.Compare _ [_] [_] _) _ _) _ _ _); refine wpAny_isTrue_Compare1 ?_) | with_reducible refine wpAny_truthy_bool ?_ | with_reducible refine rEq ?_ | ((with_reducible show wpAny _ _ (eval (Expr.Call _ _ [] _) _) _ _ _); refine Call_ ?_) | ((with_reducible show wpAny _ _ (spliced (backTo _ (starEach (_ :: _) _))) _ _ _); refine spliced_more ?_) | ((with_reducible show wpAny _ _ (spliced (backTo _ (starEach [] _))) _ _ _); refine spliced_none ?_) | with_reducible refine wpAny_IfExp ?_))
  refine nB G F6 rfl rfl ?_
  refine rCT ?_
  repeat (first | (first | ((with_reducible show wpAny _ _ (execs (Stmt.Assign [Expr.Name _ _] _ _ :: _) _) _ _ _); refine rAs ?_) | with_reducible refine rRet ?_ | with_reducible refine rIf ?_ | with_reducible refine wpAny_BinOp ?_ | with_reducible refine rI ?_ | with_reducible refine rS ?_ | ((with_reducible show wpAny _ _ (eval (Expr.Name _ _) _) _ _ _); refine nL (by assumption) rfl ?_) | ((with_reducible show wpAny _ _ (storeName _ _ _) _ _ _); refine rSt (by assumption) ?_; intro _ _) | ((with_reducible show wpAny _ _ (isTrue (Expr.Compare _ [_] [_] _) _ _) _ _ _); refine wpAny_isTrue_Compare1 ?_) | with_reducible refine wpAny_truthy_bool ?_ | with_reducible refine rEq ?_ | ((with_reducible show wpAny _ _ (eval (Expr.Call _ _ [] _) _) _ _ _); refine Call_ ?_) | ((with_reducible show wpAny _ _ (spliced (backTo _ (starEach (_ :: _) _))) _ _ _); refine spliced_more ?_) | ((with_reducible show wpAny _ _ (spliced (backTo _ (starEach [] _))) _ _ _); refine spliced_none ?_) | with_reducible refine wpAny_IfExp ?_) | (dsimp only; first | ((with_reducible show wpAny _ _ (execs (Stmt.Assign [Expr.Name _ _] _ _ :: _) _) _ _ _); refine rAs ?_) | with_reducible refine rRet ?_ | with_reducible refine rIf ?_ | with_reducible refine wpAny_BinOp ?_ | with_reducible refine rI ?_ | with_reducible refine rS ?_ | ((with_reducible show wpAny _ _ (eval (Expr.Name _ _) _) _ _ _); refine nL (by assumption) rfl ?_) | ((with_reducible show wpAny _ _ (storeName _ _ _) _ _ _); refine rSt (by assumption) ?_; intro _ _) | ((with_reducible show wpAny _ _ (isTrue (Expr.Compare _ [_] [_] _) _ _) _ _ _); refine wpAny_isTrue_Compare1 ?_) | with_reducible refine wpAny_truthy_bool ?_ | with_reducible refine rEq ?_ | ((with_reducible show wpAny _ _ (eval (Expr.Call _ _ [] _) _) _ _ _); refine Call_ ?_) | ((with_reducible show wpAny _ _ (spliced (backTo _ (starEach (_ :: _) _))) _ _ _); refine spliced_more ?_) | ((with_reducible show wpAny _ _ (spliced (backTo _ (starEach [] _))) _ _ _); refine spliced_none ?_) | with_reducible refine wpAny_IfExp ?_))
  have hvl : vs.length = c := by rw [hints.length, digs_len]
  refine rRevN ⟨ol, F6.at 1 rfl, cl, en, dl⟩ ?_
  have F7 := F6.psh (revObj l ((vs.toArray.size : Int) - 1))
  generalize hit : h6.objs.size = it at *
  refine wpAny_pyIter_revIter ⟨_, F7.at 0 rfl, rfl, rfl⟩ ?_
  refine rLoop (fun i s => ∃ h' tk' mm vs' ql e oi tn tr, s = ⟨h', gn, dr, tk', os⟩ ∧ FS g0 hp [] L h' mm [(it, oi), (lq, LO vs' e), (l, ol)] ∧ oi.cls = .type "list_reverseiterator" ∧ oi.data = .fields #[.ref l, rawInt ((i : Int) - 1)] ∧
    IntsAre vs' ql.reverse ∧ ql.length + i = c ∧ dsum n ql = (a / 2 ^ (n * i) / b : Nat) ∧ (∀ d ∈ ql, 0 ≤ d ∧ d < 2 ^ n) ∧ mm "b" = some (.int b t2) ∧ mm "n" = some (.int n tn) ∧ mm "r" = some (.int (a / 2 ^ (n * i) % b : Nat) tr) ∧ mm "q_digits" = some (.ref lq)) ?_ c ?_
  · rintro J hJ i s ⟨h', tk', mm, vs', ql, e, oi, tn, tr, rfl, Fi, hcls, hdat, hql, hlen, hsum, hbd, mb, mn, mr, mq⟩
    cases i with
    | zero =>
      refine wpAny_pyNext_rev_end rm1.hd ⟨oi, Fi.at 0 rfl, hcls, hdat⟩ ?_
      intro h8 X8
      have F8 := Fi.dropX (rev_nc hdat) X8
      show wpAny (model PP w) _ (execs _ _) _ _ ⟨h8, gn, dr, tk', os⟩
      refine rEx ?_
      refine rM ?_
      refine nL F8 mq ?_
      refine rRevM (F8.at 0 rfl) ?_
      refine rCM0 ?_
      have hvl' : vs'.length = c := by rw [hql.length, List.length_reverse]; (clear hbn hb hn hblt hn0 hLL hcc hc hl hlq hit hsum; omega)
      refine rReverse F8 0 rfl (by (clear hbn hb hn hblt hn0 hLL hl hlq hit hsum; omega)) ?_
      intro h9 F9
      repeat (first | (first | ((with_reducible show wpAny _ _ (execs (Stmt.Assign [Expr.Name _ _] _ _ :: _) _) _ _ _); refine rAs ?_) | with_reducible refine rRet ?_ | with_reducible refine rIf ?_ | with_reducible refine wpAny_BinOp ?_ | with_reducible refine rI ?_ | with_reducible refine rS ?_ | ((with_reducible show wpAny _ _ (eval (Expr.Name _ _) _) _ _ _); refine nL (by assumption) rfl ?_) | ((with_reducible show wpAny _ _ (storeName _ _ _) _ _ _); refine rSt (by assumption) ?_; intro _ _) | ((with_reducible show wpAny _ _ (isTrue (Expr.Compare _ [_] [_] _) _ _) _ _ _); refine wpAny_isTrue_Compare1 ?_) | with_reducible refine wpAny_truthy_bool ?_ | with_reducible refine rEq ?_ | ((with_reducible show wpAny _ _ (eval (Expr.Call _ _ [] _) _) _ _ _); refine Call_ ?_) | ((with_reducible show wpAny _ _ (spliced (backTo _ (starEach (_ :: _) _))) _ _ _); refine spliced_more ?_) | ((with_reducible show wpAny _ _ (spliced (backTo _ (starEach [] _))) _ _ _); refine spliced_none ?_) | with_reducible refine wpAny_IfExp ?_) | (dsimp only; first | ((with_reducible show wpAny _ _ (execs (Stmt.Assign [Expr.Name _ _] _ _ :: _) _) _ _ _); refine rAs ?_) | with_reducible refine rRet ?_ | with_reducible refine rIf ?_ | with_reducible refine wpAny_BinOp ?_ | with_reducible refine rI ?_ | with_reducible refine rS ?_ | ((with_reducible show wpAny _ _ (eval (Expr.Name _ _) _) _ _ _); refine nL (by assumption) rfl ?_) | ((with_reducible show wpAny _ _ (storeName _ _ _) _ _ _); refine rSt (by assumption) ?_; intro _ _) | ((with_reducible show wpAny _ _ (isTrue (Expr.Compare _ [_] [_] _) _ _) _ _ _); refine wpAny_isTrue_Compare1 ?_) | with_reducible refine wpAny_truthy_bool ?_ | with_reducible refine rEq ?_ | ((with_reducible show wpAny _ _ (eval (Expr.Call _ _ [] _) _) _ _ _); refine Call_ ?_) | ((with_reducible show wpAny _ _ (spliced (backTo _ (starEach (_ :: _) _))) _ _ _); refine spliced_more ?_) | ((with_reducible show wpAny _ _ (spliced (backTo _ (starEach [] _))) _ _ _); refine spliced_none ?_) | with_reducible refine wpAny_IfExp ?_))
      refine nG G F9 rfl ?_
      refine rCW (F9.ok.at0 G rfl) rfl ?_
      refine spliced_more ?_
      refine nL F9 mq ?_
      refine spliced_more ?_
      refine nL F9 mn ?_
      refine spliced_none ?_
      refine ⟨F9.ok.at0 G rfl, ?_⟩
      have hqr : IntsAre vs'.reverse ql := by have := PyProof.Rows.IntsAre.reverse hql; rwa [List.reverse_reverse] at this
      have hlen0 : ql.length = c := by (clear hbn hb hn hblt hn0 hLL hcc hc hl hlq hit hsum hvl'; omega)
      refine c_d2i G F9.ok (ds := ql) (n := n) (rm1.le (by (clear hbn hb hn hblt hn0 hLL hcc hc hl hlq hit hsum hvl' hlen0; omega))) (LO.is (F9.at 0 rfl)) hqr hbd (by (clear hbn hb hn hblt hn0 hLL hl hlq hit hsum hlen0; omega)) hn (F9.ok.nt (F9.lo0 (.head _))) ?_
      intro tk10 h10 tks10 k10 K10
      have F10 := F9.call k10 K10
      have hsum' : dsum n ql = ((a / b : Nat) : Int) := by simpa using hsum
      rw [hsum']
      refine rSt F10 ?_
      intro h11 F11
      refine rRet ?_
      refine Tuple_ ?_
      refine spliced_more ?_
      refine nL F11 rfl ?_
      refine spliced_more ?_
      refine nL F11 mr ?_
      refine spliced_none ?_
      refine rNewT ?_ (by simp [sizeLine])
      have F12 := F11.psh { cls := .type "tuple", data := .seq [Value.int (a / b : Nat) tk10, .int (a / 2 ^ (n * 0) % b : Nat) tr].toArray }
      have q := fun tks => h h11.objs.size tk10 tr _ tks F12.ok F12.kp (hLL ▸ F11.gsz) ⟨_, F12.at 0 rfl, rfl, 0, by simp⟩
      exact q _
    | succ i =>
      have hi : i < c := by (clear hbn hb hn hblt hn0 hLL hcc hc hl hlq hit hsum; omega)
      obtain ⟨tv, ev⟩ := intsAre_get hints (i := i) (by rw [digs_len]; exact hi)
      have eg : (digs n c a)[i]'(by rw [digs_len]; exact hi) = (((a / 2 ^ (n * i)) % 2 ^ n : Nat) : Int) := by
        have e1 := digs_get n c a i hi
        rw [List.getElem?_eq_getElem (by rw [digs_len]; exact hi)] at e1
        exact Option.some.inj e1
      rw [eg] at ev
      refine wpAny_pyNext_rev_item (i := i) ⟨oi, Fi.at 0 rfl, hcls, by rw [hdat, show (((i + 1 : Nat) : Int) - 1) = (i : Int) by (clear hbn hb hn hblt hn0 hLL hcc hc hl hlq hvl hit hlen hsum eg; omega)]⟩ ⟨ol, Fi.at 2 rfl, cl, en, dl⟩ (x := .int ((a / 2 ^ (n * i) % 2 ^ n : Nat) : Int) tv) (by rw [List.getElem?_toArray]; exact ev) ?_
      rintro h8 ⟨o8, e8, c8, d8⟩ S8
      have F8 := Fi.updS 0 rfl (rev_nc hdat) S8 e8
      show wpAny (model PP w) _ (storeName _ _ _) _ _ ⟨h8, gn, dr, tk', os⟩
      refine rSt F8 ?_
      intro h9 F9
      refine rAs2 ?_
      refine Call_ ?_
      refine nG G F9 rfl ?_
      refine rCW (F9.ok.at0 G rfl) rfl ?_
      refine spliced_more ?_
      refine wpAny_BinOp ?_
      refine wpAny_BinOp ?_
      refine nL F9 mr ?_
      refine nL F9 mn ?_
      generalize hA : a / 2 ^ (n * (i + 1)) = A1 at *
      generalize hd : a / 2 ^ (n * i) % 2 ^ n = d at *
      have hdlt : d < 2 ^ n := by rw [← hd]; exact Nat.mod_lt _ (Nat.pow_pos (by (clear hbn hb hn hblt hn0 hLL hcc hc hl hlq hvl hit hlen hA hsum hd eg; omega)))
      have hAd : a / 2 ^ (n * i) = A1 * 2 ^ n + d := by
        have e1 : a / 2 ^ (n * (i + 1)) = a / 2 ^ (n * i) / 2 ^ n := by rw [Nat.div_div_eq_div_mul, ← Nat.pow_add, Nat.mul_add, Nat.mul_one]
        rw [← hA, ← hd, e1]
        have := Nat.mod_add_div (a / 2 ^ (n * i)) (2 ^ n)
        rw [Nat.mul_comm (2 ^ n)] at this
        (clear hbn hb hn hblt hn0 hLL hcc hc hl hlq hvl hit hlen hA hsum hdlt e1; omega)
      obtain ⟨s1, s2, s3⟩ := step_div n b A1 d hb hdlt hblt
      have hr1 : A1 % b < 2 ^ n := Nat.lt_trans (Nat.mod_lt _ hb) hblt
      refine rLsh n ((A1 % b * 2 ^ n : Nat) : Int) rfl (by simp) rm1.hd (by have := bits_nat hr1; (clear hb hblt hLL hcc hc hl hlq hvl hit hlen hA hsum hd eg hdlt hAd s1 s2 s3 hr1; omega)) ?_
      refine nL F9 rfl ?_
      refine rAdd ((A1 % b * 2 ^ n + d : Nat) : Int) (by rw [Int.natCast_add]) ?_
      refine spliced_more ?_
      refine nL F9 mb ?_
      refine spliced_more ?_
      refine nL F9 mn ?_
      refine spliced_none ?_
      refine ⟨F9.ok.at0 G rfl, ?_⟩
      have hbits : Builtin.Int.intBits ((A1 % b * 2 ^ n + d : Nat) : Int) ≤ 4000 + n := by
        have : A1 % b * 2 ^ n + d < 2 ^ (n + n) := by
          have h1 : A1 % b + 1 ≤ 2 ^ n := hr1
          have h2 := Nat.mul_le_mul_right (2 ^ n) h1
          rw [Nat.add_mul, Nat.one_mul] at h2
          rw [Nat.pow_add]
          (clear hbn hb hn hblt hn0 hLL hcc hc hl hlq hvl hit hlen hA hsum hdlt s1 s2 s3 hr1 h1; omega)
        have := bits_nat this
        (clear hb hblt hLL hcc hc hl hlq hvl hit hlen hA hsum hd eg hdlt hAd s1 s2 s3 hr1; omega)
      refine c_d2n G F9.ok (rm1.le (by (clear hbn hb hn hblt hn0 hLL hl hlq hit hA hsum hd eg hdlt hAd s1 s2 s3 hr1 hbits; omega))) (by (clear hbn hn hblt hn0 hLL hcc hc hl hlq hvl hit hlen hA hsum hd eg hdlt hAd s1 s2 s3 hr1 hbits; omega)) (log2_le hblt (by (clear hb hblt hLL hcc hc hl hlq hvl hit hlen hA hsum hd eg hdlt hAd s1 s2 s3 hr1 hbits; omega))) hbits ?_
      intro t u1 u2 h10 tks10 k10 K10 ht htu
      have F10 := F9.call k10 K10
      refine rTup2 F10 rm1.hd htu ?_
      intro h11 F11
      refine rEx ?_
      refine rM ?_
      refine nL F11 mq ?_
      refine rAppM (F11.at 1 rfl) ?_
      refine rCM ?_
      refine spliced_more ?_
      refine nL F11 rfl ?_
      refine spliced_none ?_
      refine rAppend F11 1 rfl (by have := hql.length; rw [List.length_reverse] at this; (clear hbn hb hn hblt hn0 hLL hl hlq hit hA hsum hd eg hdlt hAd s1 s2 s3 hr1 hbits ht; omega)) ?_
      intro h12 F12
      refine rNil ?_
      refine ⟨i, Nat.lt_succ_self i, hJ _ _ ⟨h12, _, _, vs' ++ [Value.int ((A1 % b * 2 ^ n + d) / b : Nat) u1], (((A1 % b * 2 ^ n + d) / b : Nat) : Int) :: ql, e + 1, o8, tn, u2, rfl, F12, c8, ?_, ?_, ?_, ?_, ?_, mb, mn, ?_, mq⟩⟩
      · rw [d8]
      · rw [List.reverse_cons]
        exact IntsAre.append hql (.cons _ _ .nil)
      · rw [List.length_cons]; (clear hbn hb hn hblt hn0 hLL hcc hc hl hlq hit hA hsum hd eg hdlt hAd s1 s2 s3 hr1 hbits ht; omega)
      · rw [dsum, hsum, hAd, s2]
        have : ((2 : Int) ^ n) = ((2 ^ n : Nat) : Int) := by simp
        rw [this, ← Int.natCast_mul, ← Int.natCast_add, Nat.mul_comm (2 ^ n), Nat.add_comm]
      · intro x hx
        rcases List.mem_cons.mp hx with rfl | hx
        · refine ⟨Int.natCast_nonneg _, ?_⟩
          have : ((2 : Int) ^ n) = ((2 ^ n : Nat) : Int) := by simp
          rw [this]
          exact Int.ofNat_lt.mpr s1
        · exact hbd x hx
      · rw [hAd, ← s3]
        rfl
  · have ha0 : a / 2 ^ (n * c) = 0 := by
      apply Nat.div_eq_of_lt
      have h1 : Builtin.Int.intBits (a : Int) + n - 1 < n * (c + 1) := by
        rw [← hcc]
        exact Nat.lt_mul_div_succ _ hn0
      have h2 : Builtin.Int.intBits (a : Int) ≤ n * c := by rw [Nat.mul_add, Nat.mul_one] at h1; (clear hbn hb hn hblt hn0 hLL hcc hc hl hlq hvl hit; omega)
      have := intBits_le_iff.mp h2
      rwa [Int.natAbs_natCast] at this
    refine ⟨_, _, _, [], [], 0, _, _, tk3 + 1, rfl, F7, rfl, ?_, .nil, by simp, ?_, by simp, rfl, rfl, ?_, rfl⟩
    · simp [revObj, hvl]
    · simp [dsum, ha0]
    · have hr0 : a / 2 ^ (n * c) % b = 0 := by rw [ha0]; exact Nat.zero_mod b
      rw [hr0]; rfl
end Mine

namespace Mine
section
variable {w : World} {A : Around} {E : Value → Shared → Prop} {Q : Value → Shared → Prop} {t u : Tok} {hp : Heap} {gn : Array GenState} {dr : Drawn} {tk : Nat} {os : OsState}
theorem rLt {a b : Int} (h : Q (.bool (decide (a < b))) ⟨hp, gn, dr, tk, os⟩) : wpAny (model PP w) A (compareOp .Lt (.int a t) (.int b u)) Q E ⟨hp, gn, dr, tk, os⟩ := lt_int h
end
theorem c_idm0 {w : World} {mg mb : Str → Option Value} {g0 : Heap} (G : Gd w mg mb g0) {A : Around} {R : Result → Shared → Prop} {hp : Heap} {gn : Array GenState} {dr : Drawn} {tk0 : Nat} {os : OsState} (k : OK g0 hp) {a b n : Nat} {t1 t2 : Tok}
  (hbn : Builtin.Int.intBits (b : Int) = n) (rm : Rm A (cnt n a + 22)) (hb : 0 < b) (hn : n ≤ 1000) (hc : cnt n a ≤ 1000)
 (h : ∀ t u1 u2 h' tks, OK g0 h' → Kp [] hp h' → hp.objs.size ≤ t → h'.IsTuple t #[.int (a / b : Nat) u1, .int (a % b : Nat) u2] → R (.ok (.ret (.ref t))) ⟨h', gn, dr, tks, os⟩) : codeAny (model PP w) A (.call (.ref aIDM) ⟨[.int a t1, .int b t2], []⟩) R ⟨hp, gn, dr, tk0, os⟩ := by
  refine ent (T := []) (n := cnt n a + 21) (binds := [("a", .int a t1), ("b", .int b t2)]) G k rm (k.at0 G rfl) rfl (k.code G rfl) rfl rfl rfl rfl rfl rfl rfl ?_
  intro h1 tk1 F rm1 kk
  repeat (first | (first | ((with_reducible show wpAny _ _ (execs (Stmt.Assign [Expr.Name _ _] _ _ :: _) _) _ _ _); refine rAs ?_) | with_reducible refine rRet ?_ | with_reducible refine rIf ?_ | with_reducible refine wpAny_BinOp ?_ | with_reducible refine rI ?_ | with_reducible refine rS ?_ | ((with_reducible show wpAny _ _ (eval (Expr.Name _ _) _) _ _ _); refine nL (by assumption) rfl ?_) | ((with_reducible show wpAny _ _ (storeName _ _ _) _ _ _); refine rSt (by assumption) ?_; intro _ _) | ((with_reducible show wpAny _ _ (isTrue (Expr.Compare _ [_] [_] _) _ _) _ _ _); refine wpAny_isTrue_Compare1 ?_) | with_reducible refine wpAny_truthy_bool ?_ | with_reducible refine rEq ?_ | ((with_reducible show wpAny _ _ (eval (Expr.Call _ _ [] _) _) _ _ _); refine Call_ ?_) | ((with_reducible show wpAny _ _ (spliced (backTo _ (starEach (_ :: _) _))) _ _ _); refine spliced_more ?_) | ((with_reducible show wpAny _ _ (spliced (backTo _ (starEach [] _))) _ _ _); refine spliced_none ?_) | with_reducible refine wpAny_IfExp ?_) | (dsimp only; first | ((with_reducible show wpAny _ _ (execs (Stmt.Assign [Expr.Name _ _] _ _ :: _) _) _ _ _); refine rAs ?_) | with_reducible refine rRet ?_ | with_reducible refine rIf ?_ | with_reducible refine wpAny_BinOp ?_ | with_reducible refine rI ?_ | with_reducible refine rS ?_ | ((with_reducible show wpAny _ _ (eval (Expr.Name _ _) _) _ _ _); refine nL (by assumption) rfl ?_) | ((with_reducible show wpAny _ _ (storeName _ _ _) _ _ _); refine rSt (by assumption) ?_; intro _ _) | ((with_reducible show wpAny _ _ (isTrue (Expr.Compare _ [_] [_] _) _ _) _ _ _); refine wpAny_isTrue_Compare1 ?_) | with_reducible refine wpAny_truthy_bool ?_ | with_reducible refine rEq ?_ | ((with_reducible show wpAny _ _ (eval (Expr.Call _ _ [] _) _) _ _ _); refine Call_ ?_) | ((with_reducible show wpAny _ _ (spliced (backTo _ (starEach (_ :: _) _))) _ _ _); refine spliced_more ?_) | ((with_reducible show wpAny _ _ (spliced (backTo _ (starEach [] _))) _ _ _); refine spliced_none ?_) | with_reducible refine wpAny_IfExp ?_))
  refine iteF (by simp <;> (clear hbn hn hc; omega)) ?_
  repeat (first | (first | ((with_reducible show wpAny _ _ (execs (Stmt.Assign [Expr.Name _ _] _ _ :: _) _) _ _ _); refine rAs ?_) | with_reducible refine rRet ?_ | with_reducible refine rIf ?_ | with_reducible refine wpAny_BinOp ?_ | with_reducible refine rI ?_ | with_reducible refine rS ?_ | ((with_reducible show wpAny _ _ (eval (Expr.Name _ _) _) _ _ _); refine nL (by assumption) rfl ?_) | ((with_reducible show wpAny _ _ (storeName _ _ _) _ _ _); refine rSt (by assumption) ?_; intro _ _) | ((with_reducible show wpAny _ _ (isTrue (Expr.Compare _ [_] [_] _) _ _) _ _ _); refine wpAny_isTrue_Compare1 ?_) | with_reducible refine wpAny_truthy_bool ?_ | with_reducible refine rEq ?_ | ((with_reducible show wpAny _ _ (eval (Expr.Call _ _ [] _) _) _ _ _); refine Call_ ?_) | ((with_reducible show wpAny _ _ (spliced (backTo _ (starEach (_ :: _) _))) _ _ _); refine spliced_more ?_) | ((with_reducible show wpAny _ _ (spliced (backTo _ (starEach [] _))) _ _ _); refine spliced_none ?_) | with_reducible refine wpAny_IfExp ?_) | (dsimp only; first | ((with_reducible show wpAny _ _ (execs (Stmt.Assign [Expr.Name _ _] _ _ :: _) _) _ _ _); refine rAs ?_) | with_reducible refine rRet ?_ | with_reducible refine rIf ?_ | with_reducible refine wpAny_BinOp ?_ | with_reducible refine rI ?_ | with_reducible refine rS ?_ | ((with_reducible show wpAny _ _ (eval (Expr.Name _ _) _) _ _ _); refine nL (by assumption) rfl ?_) | ((with_reducible show wpAny _ _ (storeName _ _ _) _ _ _); refine rSt (by assumption) ?_; intro _ _) | ((with_reducible show wpAny _ _ (isTrue (Expr.Compare _ [_] [_] _) _ _) _ _ _); refine wpAny_isTrue_Compare1 ?_) | with_reducible refine wpAny_truthy_bool ?_ | with_reducible refine rEq ?_ | ((with_reducible show wpAny _ _ (eval (Expr.Call _ _ [] _) _) _ _ _); refine Call_ ?_) | ((with_reducible show wpAny _ _ (spliced (backTo _ (starEach (_ :: _) _))) _ _ _); refine spliced_more ?_) | ((with_reducible show wpAny _ _ (spliced (backTo _ (starEach [] _))) _ _ _); refine spliced_none ?_) | with_reducible refine wpAny_IfExp ?_))
  refine rLt ?_
  repeat (first | (first | ((with_reducible show wpAny _ _ (execs (Stmt.Assign [Expr.Name _ _] _ _ :: _) _) _ _ _); refine rAs ?_) | with_reducible refine rRet ?_ | with_reducible refine rIf ?_ | with_reducible refine wpAny_BinOp ?_ | with_reducible refine rI ?_ | with_reducible refine rS ?_ | ((with_reducible show wpAny _ _ (eval (Expr.Name _ _) _) _ _ _); refine nL (by assumption) rfl ?_) | ((with_reducible show wpAny _ _ (storeName _ _ _) _ _ _); refine rSt (by assumption) ?_; intro _ _) | ((with_reducible show wpAny _ _ (isTrue (Expr.Compare _ [_] [_] _) _ _) _ _ _); refine wpAny_isTrue_Compare1 ?_) | with_reducible refine wpAny_truthy_bool ?_ | with_reducible refine rEq ?_ | ((with_reducible show wpAny _ _ (eval (Expr.Call _ _ [] _) _) _ _ _); refine Call_ ?_) | ((with_reducible show wpAny _ _ (spliced (backTo _ (starEach (_ :: _) _))) _ _ _); refine spliced_more ?_) | ((with_reducible show wpAny _ _ (spliced (backTo _ (starEach [] _))) _ _ _); refine spliced_none ?_) | with_reducible refine wpAny_IfExp ?_) | (dsimp only; first | ((with_reducible show wpAny _ _ (execs (Stmt.Assign [Expr.Name _ _] _ _ :: _) _) _ _ _); refine rAs ?_) | with_reducible refine rRet ?_ | with_reducible refine rIf ?_ | with_reducible refine wpAny_BinOp ?_ | with_reducible refine rI ?_ | with_reducible refine rS ?_ | ((with_reducible show wpAny _ _ (eval (Expr.Name _ _) _) _ _ _); refine nL (by assumption) rfl ?_) | ((with_reducible show wpAny _ _ (storeName _ _ _) _ _ _); refine rSt (by assumption) ?_; intro _ _) | ((with_reducible show wpAny _ _ (isTrue (Expr.Compare _ [_] [_] _) _ _) _ _ _); refine wpAny_isTrue_Compare1 ?_) | with_reducible refine wpAny_truthy_bool ?_ | with_reducible refine rEq ?_ | ((with_reducible show wpAny _ _ (eval (Expr.Call _ _ [] _) _) _ _ _); refine Call_ ?_) | ((with_reducible show wpAny _ _ (spliced (backTo _ (starEach (_ :: _) _))) _ _ _); refine spliced_more ?_) | ((with_reducible show wpAny _ _ (spliced (backTo _ (starEach [] _))) _ _ _); refine spliced_none ?_) | with_reducible refine wpAny_IfExp ?_))
  refine iteF (by simp <;> omega) ?_
  repeat (first | (first | ((with_reducible show wpAny _ _ (execs (Stmt.Assign [Expr.Name _ _] _ _ :: _) _) _ _ _); refine rAs ?_) | with_reducible refine rRet ?_ | with_reducible refine rIf ?_ | with_reducible refine wpAny_BinOp ?_ | with_reducible refine rI ?_ | with_reducible refine rS ?_ | ((with_reducible show wpAny _ _ (eval (Expr.Name _ _) _) _ _ _); refine nL (by assumption) rfl ?_) | ((with_reducible show wpAny _ _ (storeName _ _ _) _ _ _); refine rSt (by assumption) ?_; intro _ _) | ((with_reducible show wpAny _ _ (isTrue (Expr.Compare _ [_] [_] _) _ _) _ _ _); refine wpAny_isTrue_Compare1 ?_) | with_reducible refine wpAny_truthy_bool ?_ | with_reducible refine rEq ?_ | ((with_reducible show wpAny _ _ (eval (Expr.Call _ _ [] _) _) _ _ _); refine Call_ ?_) | ((with_reducible show wpAny _ _ (spliced (backTo _ (starEach (_ :: _) _))) _ _ _); refine spliced_more ?_) | ((with_reducible show wpAny _ _ (spliced (backTo _ (starEach [] _))) _ _ _); refine spliced_none ?_) | with_reducible refine wpAny_IfExp ?_) | (dsimp only; first | ((with_reducible show wpAny _ _ (execs (Stmt.Assign [Expr.Name _ _] _ _ :: _) _) _ _ _); refine rAs ?_) | with_reducible refine rRet ?_ | with_reducible refine rIf ?_ | with_reducible refine wpAny_BinOp ?_ | with_reducible refine rI ?_ | with_reducible refine rS ?_ | ((with_reducible show wpAny _ _ (eval (Expr.Name _ _) _) _ _ _); refine nL (by assumption) rfl ?_) | ((with_reducible show wpAny _ _ (storeName _ _ _) _ _ _); refine rSt (by assumption) ?_; intro _ _) | ((with_reducible show wpAny _ _ (isTrue (Expr.Compare _ [_] [_] _) _ _) _ _ _); refine wpAny_isTrue_Compare1 ?_) | with_reducible refine wpAny_truthy_bool ?_ | with_reducible refine rEq ?_ | ((with_reducible show wpAny _ _ (eval (Expr.Call _ _ [] _) _) _ _ _); refine Call_ ?_) | ((with_reducible show wpAny _ _ (spliced (backTo _ (starEach (_ :: _) _))) _ _ _); refine spliced_more ?_) | ((with_reducible show wpAny _ _ (spliced (backTo _ (starEach [] _))) _ _ _); refine spliced_none ?_) | with_reducible refine wpAny_IfExp ?_))
  refine rLt ?_
  repeat (first | (first | ((with_reducible show wpAny _ _ (execs (Stmt.Assign [Expr.Name _ _] _ _ :: _) _) _ _ _); refine rAs ?_) | with_reducible refine rRet ?_ | with_reducible refine rIf ?_ | with_reducible refine wpAny_BinOp ?_ | with_reducible refine rI ?_ | with_reducible refine rS ?_ | ((with_reducible show wpAny _ _ (eval (Expr.Name _ _) _) _ _ _); refine nL (by assumption) rfl ?_) | ((with_reducible show wpAny _ _ (storeName _ _ _) _ _ _); refine rSt (by assumption) ?_; intro _ _) | ((with_reducible show wpAny _ _ (isTrue (Expr.Compare _ [_] [_] _) _ _) _ _ _); refine wpAny_isTrue_Compare1 ?_) | with_reducible refine wpAny_truthy_bool ?_ | with_reducible refine rEq ?_ | ((with_reducible show wpAny _ _ (eval (Expr.Call _ _ [] _) _) _ _ _); refine Call_ ?_) | ((with_reducible show wpAny _ _ (spliced (backTo _ (starEach (_ :: _) _))) _ _ _); refine spliced_more ?_) | ((with_reducible show wpAny _ _ (spliced (backTo _ (starEach [] _))) _ _ _); refine spliced_none ?_) | with_reducible refine wpAny_IfExp ?_) | (dsimp only; first | ((with_reducible show wpAny _ _ (execs (Stmt.Assign [Expr.Name _ _] _ _ :: _) _) _ _ _); refine rAs ?_) | with_reducible refine rRet ?_ | with_reducible refine rIf ?_ | with_reducible refine wpAny_BinOp ?_ | with_reducible refine rI ?_ | with_reducible refine rS ?_ | ((with_reducible show wpAny _ _ (eval (Expr.Name _ _) _) _ _ _); refine nL (by assumption) rfl ?_) | ((with_reducible show wpAny _ _ (storeName _ _ _) _ _ _); refine rSt (by assumption) ?_; intro _ _) | ((with_reducible show wpAny _ _ (isTrue (Expr.Compare _ [_] [_] _) _ _) _ _ _); refine wpAny_isTrue_Compare1 ?_) | with_reducible refine wpAny_truthy_bool ?_ | with_reducible refine rEq ?_ | ((with_reducible show wpAny _ _ (eval (Expr.Call _ _ [] _) _) _ _ _); refine Call_ ?_) | ((with_reducible show wpAny _ _ (spliced (backTo _ (starEach (_ :: _) _))) _ _ _); refine spliced_more ?_) | ((with_reducible show wpAny _ _ (spliced (backTo _ (starEach [] _))) _ _ _); refine spliced_none ?_) | with_reducible refine wpAny_IfExp ?_))
  refine iteF (by simp <;> omega) ?_
  repeat (first | (first | ((with_reducible show wpAny _ _ (execs (Stmt.Assign [Expr.Name _ _] _ _ :: _) _) _ _ _); refine rAs ?_) | with_reducible refine rRet ?_ | with_reducible refine rIf ?_ | with_reducible refine wpAny_BinOp ?_ | with_reducible refine rI ?_ | with_reducible refine rS ?_ | ((with_reducible show wpAny _ _ (eval (Expr.Name _ _) _) _ _ _); refine nL (by assumption) rfl ?_) | ((with_reducible show wpAny _ _ (storeName _ _ _) _ _ _); refine rSt (by assumption) ?_; intro _ _) | ((with_reducible show wpAny _ _ (isTrue (Expr.Compare _ [_] [_] _) _ _) _ _ _); refine wpAny_isTrue_Compare1 ?_) | with_reducible refine wpAny_truthy_bool ?_ | with_reducible refine rEq ?_ | ((with_reducible show wpAny _ _ (eval (Expr.Call _ _ [] _) _) _ _ _); refine Call_ ?_) | ((with_reducible show wpAny _ _ (spliced (backTo _ (starEach (_ :: _) _))) _ _ _); refine spliced_more ?_) | ((with_reducible show wpAny _ _ (spliced (backTo _ (starEach [] _))) _ _ _); refine spliced_none ?_) | with_reducible refine wpAny_IfExp ?_) | (dsimp only; first | ((with_reducible show wpAny _ _ (execs (Stmt.Assign [Expr.Name _ _] _ _ :: _) _) _ _ _); refine rAs ?_) | with_reducible refine rRet ?_ | with_reducible refine rIf ?_ | with_reducible refine wpAny_BinOp ?_ | with_reducible refine rI ?_ | with_reducible refine rS ?_ | ((with_reducible show wpAny _ _ (eval (Expr.Name _ _) _) _ _ _); refine nL (by assumption) rfl ?_) | ((with_reducible show wpAny _ _ (storeName _ _ _) _ _ _); refine rSt (by assumption) ?_; intro _ _) | ((with_reducible show wpAny _ _ (isTrue (Expr.Compare _ [_] [_] _) _ _) _ _ _); refine wpAny_isTrue_Compare1 ?_) | with_reducible refine wpAny_truthy_bool ?_ | with_reducible refine rEq ?_ | ((with_reducible show wpAny _ _ (eval (Expr.Call _ _ [] _) _) _ _ _); refine Call_ ?_) | ((with_reducible show wpAny _ _ (spliced (backTo _ (starEach (_ :: _) _))) _ _ _); refine spliced_more ?_) | ((with_reducible show wpAny _ _ (spliced (backTo _ (starEach [] _))) _ _ _); refine spliced_none ?_) | with_reducible refine wpAny_IfExp ?_))
  refine nG G F rfl ?_
  refine rCW (F.ok.at0 G rfl) rfl ?_
  repeat (first | (first | ((with_reducible show wpAny _ _ (execs (Stmt.Assign [Expr.Name _ _] _ _ :: _) _) _ _ _); refine rAs ?_) | with_reducible refine rRet ?_ | with_reducible refine rIf ?_ | with_reducible refine wpAny_BinOp ?_ | with_reducible refine rI ?_ | with_reducible refine rS ?_ | ((with_reducible show wpAny _ _ (eval (Expr.Name _ _) _) _ _ _); refine nL (by assumption) rfl ?_) | ((with_reducible show wpAny _ _ (storeName _ _ _) _ _ _); refine rSt (by assumption) ?_; intro _ _) | ((with_reducible show wpAny _ _ (isTrue (Expr.Compare _ [_] [_] _) _ _) _ _ _); refine wpAny_isTrue_Compare1 ?_) | with_reducible refine wpAny_truthy_bool ?_ | with_reducible refine rEq ?_ | ((with_reducible show wpAny _ _ (eval (Expr.Call _ _ [] _) _) _ _ _); refine Call_ ?_) | ((with_reducible show wpAny _ _ (spliced (backTo _ (starEach (_ :: _) _))) _ _ _); refine spliced_more ?_) | ((with_reducible show wpAny _ _ (spliced (backTo _ (starEach [] _))) _ _ _); refine spliced_none ?_) | with_reducible refine wpAny_IfExp ?_) | (dsimp only; first | ((with_reducible show wpAny _ _ (execs (Stmt.Assign [Expr.Name _ _] _ _ :: _) _) _ _ _); refine rAs ?_) | with_reducible refine rRet ?_ | with_reducible refine rIf ?_ | with_reducible refine wpAny_BinOp ?_ | with_reducible refine rI ?_ | with_reducible refine rS ?_ | ((with_reducible show wpAny _ _ (eval (Expr.Name _ _) _) _ _ _); refine nL (by assumption) rfl ?_) | ((with_reducible show wpAny _ _ (storeName _ _ _) _ _ _); refine rSt (by assumption) ?_; intro _ _) | ((with_reducible show wpAny _ _ (isTrue (Expr.Compare _ [_] [_] _) _ _) _ _ _); refine wpAny_isTrue_Compare1 ?_) | with_reducible refine wpAny_truthy_bool ?_ | with_reducible refine rEq ?_ | ((with_reducible show wpAny _ _ (eval (Expr.Call _ _ [] _) _) _ _ _); refine Call_ ?_) | ((with_reducible show wpAny _ _ (spliced (backTo _ (starEach (_ :: _) _))) _ _ _); refine spliced_more ?_) | ((with_reducible show wpAny _ _ (spliced (backTo _ (starEach [] _))) _ _ _); refine spliced_none ?_) | with_reducible refine wpAny_IfExp ?_))
  refine ⟨F.ok.at0 G rfl, ?_⟩
  refine c_dmp G F.ok hbn (rm1.le (by (clear hbn hb hn hc; omega))) hb hn hc ?_
  intro t u1 u2 h' tks k' K' ht hT
  have F' := F.call k' K'
  have q := fun tks => h t u1 u2 h' tks k' F'.kp (Nat.le_trans F.gsz ht) hT
  exact q _
end Mine

namespace Mine
section
variable {w : World} {A : Around} {E : Value → Shared → Prop} {Q : Value → Shared → Prop} {t u : Tok} {hp : Heap} {gn : Array GenState} {dr : Drawn} {tk : Nat} {os : OsState}
theorem rInv {a : Int} (c : Int) (e : -a - 1 = c) (h : ∀ tk', Q (.int c tk') ⟨hp, gn, dr, tk + 1, os⟩) : wpAny (model PP w) A (unaryOp .Invert (.int a t)) Q E ⟨hp, gn, dr, tk, os⟩ := by
  refine invert_int ?_
  subst e
  exact h _
end
theorem neg_div (x b : Nat) (hb : 0 < b) : (-(x : Int) - 1) / (b : Int) = -((x / b : Nat) : Int) - 1 ∧ (-(x : Int) - 1) % (b : Int) = (b : Int) + (-((x % b : Nat) : Int) - 1) := by
  have hb' : (0 : Int) < (b : Int) := Int.ofNat_lt.mpr hb
  have e : (-(x : Int) - 1) = Int.negSucc x := by rw [Int.negSucc_eq, Int.neg_add]; rfl
  rw [e, Int.negSucc_ediv x hb', Int.negSucc_emod x hb', Int.natCast_ediv, Int.natCast_emod]
  constructor
  · rw [Int.neg_add]; rfl
  · generalize (x : Int) % (b : Int) = r
    (clear hb hb' e; omega)
theorem c_idm {w : World} {mg mb : Str → Option Value} {g0 : Heap} (G : Gd w mg mb g0) {A : Around} {R : Result → Shared → Prop} {hp : Heap} {gn : Array GenState} {dr : Drawn} {tk0 : Nat} {os : OsState} (k : OK g0 hp) {a : Int} {b n : Nat} {t1 t2 : Tok}
  (hbn : Builtin.Int.intBits (b : Int) = n) (rm : Rm A (cnt n a.natAbs + 30)) (hb : 0 < b) (hn : n ≤ 1000) (hc : cnt n a.natAbs ≤ 1000) (hc' : cnt n (a.natAbs - 1) ≤ cnt n a.natAbs)
 (h : ∀ t u1 u2 h' tks, OK g0 h' → Kp [] hp h' → hp.objs.size ≤ t → h'.IsTuple t #[.int (a / (b : Int)) u1, .int (a % (b : Int)) u2] → R (.ok (.ret (.ref t))) ⟨h', gn, dr, tks, os⟩) : codeAny (model PP w) A (.call (.ref aIDM) ⟨[.int a t1, .int b t2], []⟩) R ⟨hp, gn, dr, tk0, os⟩ := by
  by_cases ha : 0 ≤ a
  · obtain ⟨x, rfl⟩ := Int.eq_ofNat_of_zero_le ha
    exact c_idm0 G k hbn (rm.le (by simp)) hb hn (by simpa using hc) h
  refine ent (T := []) (n := cnt n a.natAbs + 29) (binds := [("a", .int a t1), ("b", .int b t2)]) G k rm (k.at0 G rfl) rfl (k.code G rfl) rfl rfl rfl rfl rfl rfl rfl ?_
  intro h1 tk1 F rm1 kk
  repeat (first | (first | ((with_reducible show wpAny _ _ (execs (Stmt.Assign [Expr.Name _ _] _ _ :: _) _) _ _ _); refine rAs ?_) | with_reducible refine rRet ?_ | with_reducible refine rIf ?_ | with_reducible refine wpAny_BinOp ?_ | with_reducible refine rI ?_ | with_reducible refine rS ?_ | ((with_reducible show wpAny _ _ (eval (Expr.Name _ _) _) _ _ _); refine nL (by assumption) rfl ?_) | ((with_reducible show wpAny _ _ (storeName _ _ _) _ _ _); refine rSt (by assumption) ?_; intro _ _) | ((with_reducible show wpAny _ _ (isTrue (Expr.Compare _ [_] [_] _) _ _) _ _ _); refine wpAny_isTrue_Compare1 ?_) | with_reducible refine wpAny_truthy_bool ?_ | with_reducible refine rEq ?_ | ((with_reducible show wpAny _ _ (eval (Expr.Call _ _ [] _) _) _ _ _); refine Call_ ?_) | ((with_reducible show wpAny _ _ (spliced (backTo _ (starEach (_ :: _) _))) _ _ _); refine spliced_more ?_) | ((with_reducible show wpAny _ _ (spliced (backTo _ (starEach [] _))) _ _ _); refine spliced_none ?_) | with_reducible refine wpAny_IfExp ?_) | (dsimp only; first | ((with_reducible show wpAny _ _ (execs (Stmt.Assign [Expr.Name _ _] _ _ :: _) _) _ _ _); refine rAs ?_) | with_reducible refine rRet ?_ | with_reducible refine rIf ?_ | with_reducible refine wpAny_BinOp ?_ | with_reducible refine rI ?_ | with_reducible refine rS ?_ | ((with_reducible show wpAny _ _ (eval (Expr.Name _ _) _) _ _ _); refine nL (by assumption) rfl ?_) | ((with_reducible show wpAny _ _ (storeName _ _ _) _ _ _); refine rSt (by assumption) ?_; intro _ _) | ((with_reducible show wpAny _ _ (isTrue (Expr.Compare _ [_] [_] _) _ _) _ _ _); refine wpAny_isTrue_Compare1 ?_) | with_reducible refine wpAny_truthy_bool ?_ | with_reducible refine rEq ?_ | ((with_reducible show wpAny _ _ (eval (Expr.Call _ _ [] _) _) _ _ _); refine Call_ ?_) | ((with_reducible show wpAny _ _ (spliced (backTo _ (starEach (_ :: _) _))) _ _ _); refine spliced_more ?_) | ((with_reducible show wpAny _ _ (spliced (backTo _ (starEach [] _))) _ _ _); refine spliced_none ?_) | with_reducible refine wpAny_IfExp ?_))
  refine iteF (by simp <;> (clear hbn hn hc hc' ha; omega)) ?_
  repeat (first | (first | ((with_reducible show wpAny _ _ (execs (Stmt.Assign [Expr.Name _ _] _ _ :: _) _) _ _ _); refine rAs ?_) | with_reducible refine rRet ?_ | with_reducible refine rIf ?_ | with_reducible refine wpAny_BinOp ?_ | with_reducible refine rI ?_ | with_reducible refine rS ?_ | ((with_reducible show wpAny _ _ (eval (Expr.Name _ _) _) _ _ _); refine nL (by assumption) rfl ?_) | ((with_reducible show wpAny _ _ (storeName _ _ _) _ _ _); refine rSt (by assumption) ?_; intro _ _) | ((with_reducible show wpAny _ _ (isTrue (Expr.Compare _ [_] [_] _) _ _) _ _ _); refine wpAny_isTrue_Compare1 ?_) | with_reducible refine wpAny_truthy_bool ?_ | with_reducible refine rEq ?_ | ((with_reducible show wpAny _ _ (eval (Expr.Call _ _ [] _) _) _ _ _); refine Call_ ?_) | ((with_reducible show wpAny _ _ (spliced (backTo _ (starEach (_ :: _) _))) _ _ _); refine spliced_more ?_) | ((with_reducible show wpAny _ _ (spliced (backTo _ (starEach [] _))) _ _ _); refine spliced_none ?_) | with_reducible refine wpAny_IfExp ?_) | (dsimp only; first | ((with_reducible show wpAny _ _ (execs (Stmt.Assign [Expr.Name _ _] _ _ :: _) _) _ _ _); refine rAs ?_) | with_reducible refine rRet ?_ | with_reducible refine rIf ?_ | with_reducible refine wpAny_BinOp ?_ | with_reducible refine rI ?_ | with_reducible refine rS ?_ | ((with_reducible show wpAny _ _ (eval (Expr.Name _ _) _) _ _ _); refine nL (by assumption) rfl ?_) | ((with_reducible show wpAny _ _ (storeName _ _ _) _ _ _); refine rSt (by assumption) ?_; intro _ _) | ((with_reducible show wpAny _ _ (isTrue (Expr.Compare _ [_] [_] _) _ _) _ _ _); refine wpAny_isTrue_Compare1 ?_) | with_reducible refine wpAny_truthy_bool ?_ | with_reducible refine rEq ?_ | ((with_reducible show wpAny _ _ (eval (Expr.Call _ _ [] _) _) _ _ _); refine Call_ ?_) | ((with_reducible show wpAny _ _ (spliced (backTo _ (starEach (_ :: _) _))) _ _ _); refine spliced_more ?_) | ((with_reducible show wpAny _ _ (spliced (backTo _ (starEach [] _))) _ _ _); refine spliced_none ?_) | with_reducible refine wpAny_IfExp ?_))
  refine rLt ?_
  repeat (first | (first | ((with_reducible show wpAny _ _ (execs (Stmt.Assign [Expr.Name _ _] _ _ :: _) _) _ _ _); refine rAs ?_) | with_reducible refine rRet ?_ | with_reducible refine rIf ?_ | with_reducible refine wpAny_BinOp ?_ | with_reducible refine rI ?_ | with_reducible refine rS ?_ | ((with_reducible show wpAny _ _ (eval (Expr.Name _ _) _) _ _ _); refine nL (by assumption) rfl ?_) | ((with_reducible show wpAny _ _ (storeName _ _ _) _ _ _); refine rSt (by assumption) ?_; intro _ _) | ((with_reducible show wpAny _ _ (isTrue (Expr.Compare _ [_] [_] _) _ _) _ _ _); refine wpAny_isTrue_Compare1 ?_) | with_reducible refine wpAny_truthy_bool ?_ | with_reducible refine rEq ?_ | ((with_reducible show wpAny _ _ (eval (Expr.Call _ _ [] _) _) _ _ _); refine Call_ ?_) | ((with_reducible show wpAny _ _ (spliced (backTo _ (starEach (_ :: _) _))) _ _ _); refine spliced_more ?_) | ((with_reducible show wpAny _ _ (spliced (backTo _ (starEach [] _))) _ _ _); refine spliced_none ?_) | with_reducible refine wpAny_IfExp ?_) | (dsimp only; first | ((with_reducible show wpAny _ _ (execs (Stmt.Assign [Expr.Name _ _] _ _ :: _) _) _ _ _); refine rAs ?_) | with_reducible refine rRet ?_ | with_reducible refine rIf ?_ | with_reducible refine wpAny_BinOp ?_ | with_reducible refine rI ?_ | with_reducible refine rS ?_ | ((with_reducible show wpAny _ _ (eval (Expr.Name _ _) _) _ _ _); refine nL (by assumption) rfl ?_) | ((with_reducible show wpAny _ _ (storeName _ _ _) _ _ _); refine rSt (by assumption) ?_; intro _ _) | ((with_reducible show wpAny _ _ (isTrue (Expr.Compare _ [_] [_] _) _ _) _ _ _); refine wpAny_isTrue_Compare1 ?_) | with_reducible refine wpAny_truthy_bool ?_ | with_reducible refine rEq ?_ | ((with_reducible show wpAny _ _ (eval (Expr.Call _ _ [] _) _) _ _ _); refine Call_ ?_) | ((with_reducible show wpAny _ _ (spliced (backTo _ (starEach (_ :: _) _))) _ _ _); refine spliced_more ?_) | ((with_reducible show wpAny _ _ (spliced (backTo _ (starEach [] _))) _ _ _); refine spliced_none ?_) | with_reducible refine wpAny_IfExp ?_))
  refine iteF (by simp <;> omega) ?_
  repeat (first | (first | ((with_reducible show wpAny _ _ (execs (Stmt.Assign [Expr.Name _ _] _ _ :: _) _) _ _ _); refine rAs ?_) | with_reducible refine rRet ?_ | with_reducible refine rIf ?_ | with_reducible refine wpAny_BinOp ?_ | with_reducible refine rI ?_ | with_reducible refine rS ?_ | ((with_reducible show wpAny _ _ (eval (Expr.Name _ _) _) _ _ _); refine nL (by assumption) rfl ?_) | ((with_reducible show wpAny _ _ (storeName _ _ _) _ _ _); refine rSt (by assumption) ?_; intro _ _) | ((with_reducible show wpAny _ _ (isTrue (Expr.Compare _ [_] [_] _) _ _) _ _ _); refine wpAny_isTrue_Compare1 ?_) | with_reducible refine wpAny_truthy_bool ?_ | with_reducible refine rEq ?_ | ((with_reducible show wpAny _ _ (eval (Expr.Call _ _ [] _) _) _ _ _); refine Call_ ?_) | ((with_reducible show wpAny _ _ (spliced (backTo _ (starEach (_ :: _) _))) _ _ _); refine spliced_more ?_) | ((with_reducible show wpAny _ _ (spliced (backTo _ (starEach [] _))) _ _ _); refine spliced_none ?_) | with_reducible refine wpAny_IfExp ?_) | (dsimp only; first | ((with_reducible show wpAny _ _ (execs (Stmt.Assign [Expr.Name _ _] _ _ :: _) _) _ _ _); refine rAs ?_) | with_reducible refine rRet ?_ | with_reducible refine rIf ?_ | with_reducible refine wpAny_BinOp ?_ | with_reducible refine rI ?_ | with_reducible refine rS ?_ | ((with_reducible show wpAny _ _ (eval (Expr.Name _ _) _) _ _ _); refine nL (by assumption) rfl ?_) | ((with_reducible show wpAny _ _ (storeName _ _ _) _ _ _); refine rSt (by assumption) ?_; intro _ _) | ((with_reducible show wpAny _ _ (isTrue (Expr.Compare _ [_] [_] _) _ _) _ _ _); refine wpAny_isTrue_Compare1 ?_) | with_reducible refine wpAny_truthy_bool ?_ | with_reducible refine rEq ?_ | ((with_reducible show wpAny _ _ (eval (Expr.Call _ _ [] _) _) _ _ _); refine Call_ ?_) | ((with_reducible show wpAny _ _ (spliced (backTo _ (starEach (_ :: _) _))) _ _ _); refine spliced_more ?_) | ((with_reducible show wpAny _ _ (spliced (backTo _ (starEach [] _))) _ _ _); refine spliced_none ?_) | with_reducible refine wpAny_IfExp ?_))
  refine rLt ?_
  repeat (first | (first | ((with_reducible show wpAny _ _ (execs (Stmt.Assign [Expr.Name _ _] _ _ :: _) _) _ _ _); refine rAs ?_) | with_reducible refine rRet ?_ | with_reducible refine rIf ?_ | with_reducible refine wpAny_BinOp ?_ | with_reducible refine rI ?_ | with_reducible refine rS ?_ | ((with_reducible show wpAny _ _ (eval (Expr.Name _ _) _) _ _ _); refine nL (by assumption) rfl ?_) | ((with_reducible show wpAny _ _ (storeName _ _ _) _ _ _); refine rSt (by assumption) ?_; intro _ _) | ((with_reducible show wpAny _ _ (isTrue (Expr.Compare _ [_] [_] _) _ _) _ _ _); refine wpAny_isTrue_Compare1 ?_) | with_reducible refine wpAny_truthy_bool ?_ | with_reducible refine rEq ?_ | ((with_reducible show wpAny _ _ (eval (Expr.Call _ _ [] _) _) _ _ _); refine Call_ ?_) | ((with_reducible show wpAny _ _ (spliced (backTo _ (starEach (_ :: _) _))) _ _ _); refine spliced_more ?_) | ((with_reducible show wpAny _ _ (spliced (backTo _ (starEach [] _))) _ _ _); refine spliced_none ?_) | with_reducible refine wpAny_IfExp ?_) | (dsimp only; first | ((with_reducible show wpAny _ _ (execs (Stmt.Assign [Expr.Name _ _] _ _ :: _) _) _ _ _); refine rAs ?_) | with_reducible refine rRet ?_ | with_reducible refine rIf ?_ | with_reducible refine wpAny_BinOp ?_ | with_reducible refine rI ?_ | with_reducible refine rS ?_ | ((with_reducible show wpAny _ _ (eval (Expr.Name _ _) _) _ _ _); refine nL (by assumption) rfl ?_) | ((with_reducible show wpAny _ _ (storeName _ _ _) _ _ _); refine rSt (by assumption) ?_; intro _ _) | ((with_reducible show wpAny _ _ (isTrue (Expr.Compare _ [_] [_] _) _ _) _ _ _); refine wpAny_isTrue_Compare1 ?_) | with_reducible refine wpAny_truthy_bool ?_ | with_reducible refine rEq ?_ | ((with_reducible show wpAny _ _ (eval (Expr.Call _ _ [] _) _) _ _ _); refine Call_ ?_) | ((with_reducible show wpAny _ _ (spliced (backTo _ (starEach (_ :: _) _))) _ _ _); refine spliced_more ?_) | ((with_reducible show wpAny _ _ (spliced (backTo _ (starEach [] _))) _ _ _); refine spliced_none ?_) | with_reducible refine wpAny_IfExp ?_))
  refine iteT (by simp <;> (clear hbn hb hn hc hc'; omega)) ?_
  refine rAs2 ?_
  refine Call_ ?_
  refine nG G F rfl ?_
  refine rCW (F.ok.at0 G rfl) rfl ?_
  refine spliced_more ?_
  refine wpAny_UnaryOp ?_
  refine nL F rfl ?_
  refine rInv ((a.natAbs - 1 : Nat) : Int) (by (clear hbn hb hn hc hc'; omega)) ?_
  intro tki
  repeat (first | (first | ((with_reducible show wpAny _ _ (execs (Stmt.Assign [Expr.Name _ _] _ _ :: _) _) _ _ _); refine rAs ?_) | with_reducible refine rRet ?_ | with_reducible refine rIf ?_ | with_reducible refine wpAny_BinOp ?_ | with_reducible refine rI ?_ | with_reducible refine rS ?_ | ((with_reducible show wpAny _ _ (eval (Expr.Name _ _) _) _ _ _); refine nL (by assumption) rfl ?_) | ((with_reducible show wpAny _ _ (storeName _ _ _) _ _ _); refine rSt (by assumption) ?_; intro _ _) | ((with_reducible show wpAny _ _ (isTrue (Expr.Compare _ [_] [_] _) _ _) _ _ _); refine wpAny_isTrue_Compare1 ?_) | with_reducible refine wpAny_truthy_bool ?_ | with_reducible refine rEq ?_ | ((with_reducible show wpAny _ _ (eval (Expr.Call _ _ [] _) _) _ _ _); refine Call_ ?_) | ((with_reducible show wpAny _ _ (spliced (backTo _ (starEach (_ :: _) _))) _ _ _); refine spliced_more ?_) | ((with_reducible show wpAny _ _ (spliced (backTo _ (starEach [] _))) _ _ _); refine spliced_none ?_) | with_reducible refine wpAny_IfExp ?_) | (dsimp only; first | ((with_reducible show wpAny _ _ (execs (Stmt.Assign [Expr.Name _ _] _ _ :: _) _) _ _ _); refine rAs ?_) | with_reducible refine rRet ?_ | with_reducible refine rIf ?_ | with_reducible refine wpAny_BinOp ?_ | with_reducible refine rI ?_ | with_reducible refine rS ?_ | ((with_reducible show wpAny _ _ (eval (Expr.Name _ _) _) _ _ _); refine nL (by assumption) rfl ?_) | ((with_reducible show wpAny _ _ (storeName _ _ _) _ _ _); refine rSt (by assumption) ?_; intro _ _) | ((with_reducible show wpAny _ _ (isTrue (Expr.Compare _ [_] [_] _) _ _) _ _ _); refine wpAny_isTrue_Compare1 ?_) | with_reducible refine wpAny_truthy_bool ?_ | with_reducible refine rEq ?_ | ((with_reducible show wpAny _ _ (eval (Expr.Call _ _ [] _) _) _ _ _); refine Call_ ?_) | ((with_reducible show wpAny _ _ (spliced (backTo _ (starEach (_ :: _) _))) _ _ _); refine spliced_more ?_) | ((with_reducible show wpAny _ _ (spliced (backTo _ (starEach [] _))) _ _ _); refine spliced_none ?_) | with_reducible refine wpAny_IfExp ?_))
  refine ⟨F.ok.at0 G rfl, ?_⟩
  refine c_idm0 G F.ok hbn (rm1.le (by (clear hbn hb hn hc ha; omega))) hb hn (by (clear hbn hb hn ha; omega)) ?_
  intro t u1 u2 h2 tk2 k2 K2 ht hT
  have F2 := F.call k2 K2
  refine rTup2 F2 rm1.hd hT ?_
  intro h3 F3
  generalize hx : a.natAbs - 1 = x at *
  have hax : a = -(x : Int) - 1 := by (clear hbn hb hn hc ht hc'; omega)
  refine rRet ?_
  refine Tuple_ ?_
  refine spliced_more ?_
  refine wpAny_UnaryOp ?_
  refine nL F3 rfl ?_
  refine rInv (a / (b : Int)) (by rw [hax, (neg_div x b hb).1]) ?_
  intro tk3
  refine spliced_more ?_
  refine wpAny_BinOp ?_
  refine nL F3 rfl ?_
  refine wpAny_UnaryOp ?_
  refine nL F3 rfl ?_
  refine rInv _ rfl ?_
  intro tk4
  refine rAdd (a % (b : Int)) (by rw [hax, (neg_div x b hb).2]) ?_
  refine spliced_none ?_
  refine rNewT ?_ (by simp [sizeLine])
  have q := fun u1 u2 tks => h h3.objs.size u1 u2 _ tks (F3.psh { cls := .type "tuple", data := .seq [Value.int (a / (b : Int)) u1, .int (a % (b : Int)) u2].toArray }).ok
    (F3.psh { cls := .type "tuple", data := .seq [Value.int (a / (b : Int)) u1, .int (a % (b : Int)) u2].toArray }).kp F3.gsz ⟨_, (F3.psh _).at 0 rfl, rfl, 0, by simp⟩
  exact q _ _ _
end Mine

namespace Mine
def hx (x : Nat) : List Nat := if h : x = 0 then [] else (x % 16) :: hx (x / 16)
theorem hx_zero : hx 0 = [] := by rw [hx]; rfl
theorem hx_pos {x : Nat} (h : x ≠ 0) : hx x = (x % 16) :: hx (x / 16) := by rw [hx]; rw [dif_neg h]
def ap (d : Nat) : UInt8 := (65 + d).toUInt8
def apB (ds : List Nat) : Array UInt8 := (ds.reverse.map ap).toArray
def APs : Array UInt8 := [(65 : UInt8), 66, 67, 68, 69, 70, 71, 72, 73, 74, 75, 76, 77, 78, 79, 80].toArray
theorem aps_one : ∀ d : Nat, d < 16 → KBy.picked APs (some (d : Int)) (some ((d + 1 : Nat) : Int)) = #[ap d] := by
  intro d hd
  have : ∀ d : Fin 16, KBy.picked APs (some ((d.val : Nat) : Int)) (some ((d.val + 1 : Nat) : Int)) = #[ap d.val] := by decide +kernel
  exact this ⟨d, hd⟩
section
variable {w : World} {A : Around} {E : Value → Shared → Prop} {Q : Value → Shared → Prop} {t u : Tok} {hp : Heap} {gn : Array GenState} {dr : Drawn} {tk : Nat} {os : OsState} {pos : Pos} {k : Nat} {env : Env}
theorem rBy {x : List UInt8} (h : ∀ t, Q (.bytes x.toArray t) ⟨hp, gn, dr, tk + 1, os⟩) : wpAny (model PP w) A (eval (.Constant (.bytes x) k pos) env) Q E ⟨hp, gn, dr, tk, os⟩ := Constant_bytes (h _)
theorem rSub1 {value slice : Expr}
    (h : wpAny (model PP w) A (eval value env) (fun o s₁ => wpAny (model PP w) A (eval slice env) (fun i s₂ => wpAny (model PP w) A (subscriptTail value slice o i) Q E s₂) E s₁) E ⟨hp, gn, dr, tk, os⟩) :
    wpAny (model PP w) A (eval (.Subscript value slice pos) env) Q E ⟨hp, gn, dr, tk, os⟩ := Subscript_ h
theorem rBySl {value slice : Expr} {b : Array UInt8} {l u : Value} {lo hi : Option Int} (hl : IsPart l lo) (hu : IsPart u hi) (hz : b.size ≤ 16777216)
    (h : ∀ t' k', Q (.bytes (KBy.picked b lo hi) t') ⟨hp.push { cls := .type "slice", data := .fields #[l, u, .none] }, gn, dr, k', os⟩)
    (hs : subscripted slice false (.bytes b t) (.ref hp.objs.size) = operate [.ref hp.objs.size, .bytes b t] (getItem (.bytes b t) (.ref hp.objs.size)) := by with_unfolding_all rfl)
    (ht : ∀ r, letTemporaryGo value (.bytes b t) r = pure () := by intro _; with_unfolding_all rfl) :
    wpAny (model PP w) A (subscriptTail value slice (.bytes b t) (.ref hp.objs.size)) Q E ⟨hp.push { cls := .type "slice", data := .fields #[l, u, .none] }, gn, dr, tk, os⟩ :=
  tail_of_ItemOn ⟨"bytes", _, FB.slot_bytes_getitem.lookup, typeIs_bytes _ _ _, getItem_meets (typeIs_bytes _ _ _) (by decide) FB.slot_bytes_getitem FB.entry_bytes_getitem (FB.args_bytes_getitem_2 _ _) (KBc.meets_slice2 b t _ hl hu)
    ⟨Heap.IsSliceOf.new _ _ _ _, Nat.le_trans (KBc.size_picked_le b lo hi) (by rw [sizeLine_eq]; exact hz), fun t' k => h _ _⟩⟩ hs ht
theorem rByAdd {b c : Array UInt8} (hsz : b.size + c.size ≤ 16777216) (h : ∀ t' k', Q (.bytes (b ++ c) t') ⟨hp, gn, dr, k', os⟩) : wpAny (model PP w) A (binaryOp .Add (.bytes b t) (.bytes c u)) Q E ⟨hp, gn, dr, tk, os⟩ := KBy.add_bytes hsz h
theorem rSlc {lower upper step : Option Expr} {p : Pos}
    (h : wpAny (model PP w) A (evalPart lower env) (fun l s₁ => wpAny (model PP w) A (evalPart upper env) (fun u s₂ => wpAny (model PP w) A (evalPart step env) (fun st s₃ =>
      Q (.ref s₃.heap.objs.size) { s₃ with heap := s₃.heap.push { cls := .type "slice", data := .fields #[l, u, st] } }) E s₂) E s₁) E ⟨hp, gn, dr, tk, os⟩) :
    wpAny (model PP w) A (eval (.Slice lower upper step p) env) Q E ⟨hp, gn, dr, tk, os⟩ := wpAny_Slice h
end
theorem c_i2a {w : World} {mg mb : Str → Option Value} {g0 : Heap} (G : Gd w mg mb g0) {A : Around} {R : Result → Shared → Prop} {hp : Heap} {gn : Array GenState} {dr : Drawn} {tk0 : Nat} {os : OsState} (k : OK g0 hp) {x : Nat} {t1 : Tok}
  (rm : Rm A 5) (hs : (hx x).length ≤ 1000)
 (h : ∀ t h' tks, OK g0 h' → Kp [] hp h' → R (.ok (.ret (.bytes (apB (hx x)) t))) ⟨h', gn, dr, tks, os⟩) : codeAny (model PP w) A (.call (.ref aI2A) ⟨[.int x t1], []⟩) R ⟨hp, gn, dr, tk0, os⟩ := by
  refine ent (T := []) (n := 4) (binds := [("num", .int x t1)]) G k rm (k.at0 G rfl) rfl (k.code G rfl) rfl rfl rfl rfl rfl rfl rfl ?_
  intro h1 tk1 F rm1 kk
  repeat (first | (first | ((with_reducible show wpAny _ _ (execs (Stmt.Assign [Expr.Name _ _] _ _ :: _) _) _ _ _); refine rAs ?_) | with_reducible refine rRet ?_ | with_reducible refine rIf ?_ | with_reducible refine wpAny_BinOp ?_ | with_reducible refine rI ?_ | with_reducible refine rS ?_ | ((with_reducible show wpAny _ _ (eval (Expr.Name _ _) _) _ _ _); refine nL (by assumption) rfl ?_) | ((with_reducible show wpAny _ _ (storeName _ _ _) _ _ _); refine rSt (by assumption) ?_; intro _ _) | ((with_reducible show wpAny _ _ (isTrue (Expr.Compare _ [_] [_] _) _ _) _ _ _); refine wpAny_isTrue_Compare1 ?_) | with_reducible refine wpAny_truthy_bool ?_ | with_reducible refine rEq ?_ | ((with_reducible show wpAny _ _ (eval (Expr.Call _ _ [] _) _) _ _ _); refine Call_ ?_) | ((with_reducible show wpAny _ _ (spliced (backTo _ (starEach (_ :: _) _))) _ _ _); refine spliced_more ?_) | ((with_reducible show wpAny _ _ (spliced (backTo _ (starEach [] _))) _ _ _); refine spliced_none ?_) | with_reducible refine wpAny_IfExp ?_) | (dsimp only; first | ((with_reducible show wpAny _ _ (execs (Stmt.Assign [Expr.Name _ _] _ _ :: _) _) _ _ _); refine rAs ?_) | with_reducible refine rRet ?_ | with_reducible refine rIf ?_ | with_reducible refine wpAny_BinOp ?_ | with_reducible refine rI ?_ | with_reducible refine rS ?_ | ((with_reducible show wpAny _ _ (eval (Expr.Name _ _) _) _ _ _); refine nL (by assumption) rfl ?_) | ((with_reducible show wpAny _ _ (storeName _ _ _) _ _ _); refine rSt (by assumption) ?_; intro _ _) | ((with_reducible show wpAny _ _ (isTrue (Expr.Compare _ [_] [_] _) _ _) _ _ _); refine wpAny_isTrue_Compare1 ?_) | with_reducible refine wpAny_truthy_bool ?_ | with_reducible refine rEq ?_ | ((with_reducible show wpAny _ _ (eval (Expr.Call _ _ [] _) _) _ _ _); refine Call_ ?_) | ((with_reducible show wpAny _ _ (spliced (backTo _ (starEach (_ :: _) _))) _ _ _); refine spliced_more ?_) | ((with_reducible show wpAny _ _ (spliced (backTo _ (starEach [] _))) _ _ _); refine spliced_none ?_) | with_reducible refine wpAny_IfExp ?_))
  refine rBy ?_
  intro t2
  repeat (first | (first | ((with_reducible show wpAny _ _ (execs (Stmt.Assign [Expr.Name _ _] _ _ :: _) _) _ _ _); refine rAs ?_) | with_reducible refine rRet ?_ | with_reducible refine rIf ?_ | with_reducible refine wpAny_BinOp ?_ | with_reducible refine rI ?_ | with_reducible refine rS ?_ | ((with_reducible show wpAny _ _ (eval (Expr.Name _ _) _) _ _ _); refine nL (by assumption) rfl ?_) | ((with_reducible show wpAny _ _ (storeName _ _ _) _ _ _); refine rSt (by assumption) ?_; intro _ _) | ((with_reducible show wpAny _ _ (isTrue (Expr.Compare _ [_] [_] _) _ _) _ _ _); refine wpAny_isTrue_Compare1 ?_) | with_reducible refine wpAny_truthy_bool ?_ | with_reducible refine rEq ?_ | ((with_reducible show wpAny _ _ (eval (Expr.Call _ _ [] _) _) _ _ _); refine Call_ ?_) | ((with_reducible show wpAny _ _ (spliced (backTo _ (starEach (_ :: _) _))) _ _ _); refine spliced_more ?_) | ((with_reducible show wpAny _ _ (spliced (backTo _ (starEach [] _))) _ _ _); refine spliced_none ?_) | with_reducible refine wpAny_IfExp ?_) | (dsimp only; first | ((with_reducible show wpAny _ _ (execs (Stmt.Assign [Expr.Name _ _] _ _ :: _) _) _ _ _); refine rAs ?_) | with_reducible refine rRet ?_ | with_reducible refine rIf ?_ | with_reducible refine wpAny_BinOp ?_ | with_reducible refine rI ?_ | with_reducible refine rS ?_ | ((with_reducible show wpAny _ _ (eval (Expr.Name _ _) _) _ _ _); refine nL (by assumption) rfl ?_) | ((with_reducible show wpAny _ _ (storeName _ _ _) _ _ _); refine rSt (by assumption) ?_; intro _ _) | ((with_reducible show wpAny _ _ (isTrue (Expr.Compare _ [_] [_] _) _ _) _ _ _); refine wpAny_isTrue_Compare1 ?_) | with_reducible refine wpAny_truthy_bool ?_ | with_reducible refine rEq ?_ | ((with_reducible show wpAny _ _ (eval (Expr.Call _ _ [] _) _) _ _ _); refine Call_ ?_) | ((with_reducible show wpAny _ _ (spliced (backTo _ (starEach (_ :: _) _))) _ _ _); refine spliced_more ?_) | ((with_reducible show wpAny _ _ (spliced (backTo _ (starEach [] _))) _ _ _); refine spliced_none ?_) | with_reducible refine wpAny_IfExp ?_))
  rename_i h2 F2
  refine rBy ?_
  intro t3
  repeat (first | (first | ((with_reducible show wpAny _ _ (execs (Stmt.Assign [Expr.Name _ _] _ _ :: _) _) _ _ _); refine rAs ?_) | with_reducible refine rRet ?_ | with_reducible refine rIf ?_ | with_reducible refine wpAny_BinOp ?_ | with_reducible refine rI ?_ | with_reducible refine rS ?_ | ((with_reducible show wpAny _ _ (eval (Expr.Name _ _) _) _ _ _); refine nL (by assumption) rfl ?_) | ((with_reducible show wpAny _ _ (storeName _ _ _) _ _ _); refine rSt (by assumption) ?_; intro _ _) | ((with_reducible show wpAny _ _ (isTrue (Expr.Compare _ [_] [_] _) _ _) _ _ _); refine wpAny_isTrue_Compare1 ?_) | with_reducible refine wpAny_truthy_bool ?_ | with_reducible refine rEq ?_ | ((with_reducible show wpAny _ _ (eval (Expr.Call _ _ [] _) _) _ _ _); refine Call_ ?_) | ((with_reducible show wpAny _ _ (spliced (backTo _ (starEach (_ :: _) _))) _ _ _); refine spliced_more ?_) | ((with_reducible show wpAny _ _ (spliced (backTo _ (starEach [] _))) _ _ _); refine spliced_none ?_) | with_reducible refine wpAny_IfExp ?_) | (dsimp only; first | ((with_reducible show wpAny _ _ (execs (Stmt.Assign [Expr.Name _ _] _ _ :: _) _) _ _ _); refine rAs ?_) | with_reducible refine rRet ?_ | with_reducible refine rIf ?_ | with_reducible refine wpAny_BinOp ?_ | with_reducible refine rI ?_ | with_reducible refine rS ?_ | ((with_reducible show wpAny _ _ (eval (Expr.Name _ _) _) _ _ _); refine nL (by assumption) rfl ?_) | ((with_reducible show wpAny _ _ (storeName _ _ _) _ _ _); refine rSt (by assumption) ?_; intro _ _) | ((with_reducible show wpAny _ _ (isTrue (Expr.Compare _ [_] [_] _) _ _) _ _ _); refine wpAny_isTrue_Compare1 ?_) | with_reducible refine wpAny_truthy_bool ?_ | with_reducible refine rEq ?_ | ((with_reducible show wpAny _ _ (eval (Expr.Call _ _ [] _) _) _ _ _); refine Call_ ?_) | ((with_reducible show wpAny _ _ (spliced (backTo _ (starEach (_ :: _) _))) _ _ _); refine spliced_more ?_) | ((with_reducible show wpAny _ _ (spliced (backTo _ (starEach [] _))) _ _ _); refine spliced_none ?_) | with_reducible refine wpAny_IfExp ?_))
  rename_i h3 F3
  refine nB G F3 rfl rfl ?_
  refine rCT ?_
  repeat (first | (first | ((with_reducible show wpAny _ _ (execs (Stmt.Assign [Expr.Name _ _] _ _ :: _) _) _ _ _); refine rAs ?_) | with_reducible refine rRet ?_ | with_reducible refine rIf ?_ | with_reducible refine wpAny_BinOp ?_ | with_reducible refine rI ?_ | with_reducible refine rS ?_ | ((with_reducible show wpAny _ _ (eval (Expr.Name _ _) _) _ _ _); refine nL (by assumption) rfl ?_) | ((with_reducible show wpAny _ _ (storeName _ _ _) _ _ _); refine rSt (by assumption) ?_; intro _ _) | ((with_reducible show wpAny _ _ (isTrue (Expr.Compare _ [_] [_] _) _ _) _ _ _); refine wpAny_isTrue_Compare1 ?_) | with_reducible refine wpAny_truthy_bool ?_ | with_reducible refine rEq ?_ | ((with_reducible show wpAny _ _ (eval (Expr.Call _ _ [] _) _) _ _ _); refine Call_ ?_) | ((with_reducible show wpAny _ _ (spliced (backTo _ (starEach (_ :: _) _))) _ _ _); refine spliced_more ?_) | ((with_reducible show wpAny _ _ (spliced (backTo _ (starEach [] _))) _ _ _); refine spliced_none ?_) | with_reducible refine wpAny_IfExp ?_) | (dsimp only; first | ((with_reducible show wpAny _ _ (execs (Stmt.Assign [Expr.Name _ _] _ _ :: _) _) _ _ _); refine rAs ?_) | with_reducible refine rRet ?_ | with_reducible refine rIf ?_ | with_reducible refine wpAny_BinOp ?_ | with_reducible refine rI ?_ | with_reducible refine rS ?_ | ((with_reducible show wpAny _ _ (eval (Expr.Name _ _) _) _ _ _); refine nL (by assumption) rfl ?_) | ((with_reducible show wpAny _ _ (storeName _ _ _) _ _ _); refine rSt (by assumption) ?_; intro _ _) | ((with_reducible show wpAny _ _ (isTrue (Expr.Compare _ [_] [_] _) _ _) _ _ _); refine wpAny_isTrue_Compare1 ?_) | with_reducible refine wpAny_truthy_bool ?_ | with_reducible refine rEq ?_ | ((with_reducible show wpAny _ _ (eval (Expr.Call _ _ [] _) _) _ _ _); refine Call_ ?_) | ((with_reducible show wpAny _ _ (spliced (backTo _ (starEach (_ :: _) _))) _ _ _); refine spliced_more ?_) | ((with_reducible show wpAny _ _ (spliced (backTo _ (starEach [] _))) _ _ _); refine spliced_none ?_) | with_reducible refine wpAny_IfExp ?_))
  refine nB G F3 rfl rfl ?_
  refine rCB ?_
  repeat (first | (first | ((with_reducible show wpAny _ _ (execs (Stmt.Assign [Expr.Name _ _] _ _ :: _) _) _ _ _); refine rAs ?_) | with_reducible refine rRet ?_ | with_reducible refine rIf ?_ | with_reducible refine wpAny_BinOp ?_ | with_reducible refine rI ?_ | with_reducible refine rS ?_ | ((with_reducible show wpAny _ _ (eval (Expr.Name _ _) _) _ _ _); refine nL (by assumption) rfl ?_) | ((with_reducible show wpAny _ _ (storeName _ _ _) _ _ _); refine rSt (by assumption) ?_; intro _ _) | ((with_reducible show wpAny _ _ (isTrue (Expr.Compare _ [_] [_] _) _ _) _ _ _); refine wpAny_isTrue_Compare1 ?_) | with_reducible refine wpAny_truthy_bool ?_ | with_reducible refine rEq ?_ | ((with_reducible show wpAny _ _ (eval (Expr.Call _ _ [] _) _) _ _ _); refine Call_ ?_) | ((with_reducible show wpAny _ _ (spliced (backTo _ (starEach (_ :: _) _))) _ _ _); refine spliced_more ?_) | ((with_reducible show wpAny _ _ (spliced (backTo _ (starEach [] _))) _ _ _); refine spliced_none ?_) | with_reducible refine wpAny_IfExp ?_) | (dsimp only; first | ((with_reducible show wpAny _ _ (execs (Stmt.Assign [Expr.Name _ _] _ _ :: _) _) _ _ _); refine rAs ?_) | with_reducible refine rRet ?_ | with_reducible refine rIf ?_ | with_reducible refine wpAny_BinOp ?_ | with_reducible refine rI ?_ | with_reducible refine rS ?_ | ((with_reducible show wpAny _ _ (eval (Expr.Name _ _) _) _ _ _); refine nL (by assumption) rfl ?_) | ((with_reducible show wpAny _ _ (storeName _ _ _) _ _ _); refine rSt (by assumption) ?_; intro _ _) | ((with_reducible show wpAny _ _ (isTrue (Expr.Compare _ [_] [_] _) _ _) _ _ _); refine wpAny_isTrue_Compare1 ?_) | with_reducible refine wpAny_truthy_bool ?_ | with_reducible refine rEq ?_ | ((with_reducible show wpAny _ _ (eval (Expr.Call _ _ [] _) _) _ _ _); refine Call_ ?_) | ((with_reducible show wpAny _ _ (spliced (backTo _ (starEach (_ :: _) _))) _ _ _); refine spliced_more ?_) | ((with_reducible show wpAny _ _ (spliced (backTo _ (starEach [] _))) _ _ _); refine spliced_none ?_) | with_reducible refine wpAny_IfExp ?_))
  refine call_abs_int ?_
  intro u4 tk4
  rw [if_neg (by (clear hs; omega))]
  repeat (first | (first | ((with_reducible show wpAny _ _ (execs (Stmt.Assign [Expr.Name _ _] _ _ :: _) _) _ _ _); refine rAs ?_) | with_reducible refine rRet ?_ | with_reducible refine rIf ?_ | with_reducible refine wpAny_BinOp ?_ | with_reducible refine rI ?_ | with_reducible refine rS ?_ | ((with_reducible show wpAny _ _ (eval (Expr.Name _ _) _) _ _ _); refine nL (by assumption) rfl ?_) | ((with_reducible show wpAny _ _ (storeName _ _ _) _ _ _); refine rSt (by assumption) ?_; intro _ _) | ((with_reducible show wpAny _ _ (isTrue (Expr.Compare _ [_] [_] _) _ _) _ _ _); refine wpAny_isTrue_Compare1 ?_) | with_reducible refine wpAny_truthy_bool ?_ | with_reducible refine rEq ?_ | ((with_reducible show wpAny _ _ (eval (Expr.Call _ _ [] _) _) _ _ _); refine Call_ ?_) | ((with_reducible show wpAny _ _ (spliced (backTo _ (starEach (_ :: _) _))) _ _ _); refine spliced_more ?_) | ((with_reducible show wpAny _ _ (spliced (backTo _ (starEach [] _))) _ _ _); refine spliced_none ?_) | with_reducible refine wpAny_IfExp ?_) | (dsimp only; first | ((with_reducible show wpAny _ _ (execs (Stmt.Assign [Expr.Name _ _] _ _ :: _) _) _ _ _); refine rAs ?_) | with_reducible refine rRet ?_ | with_reducible refine rIf ?_ | with_reducible refine wpAny_BinOp ?_ | with_reducible refine rI ?_ | with_reducible refine rS ?_ | ((with_reducible show wpAny _ _ (eval (Expr.Name _ _) _) _ _ _); refine nL (by assumption) rfl ?_) | ((with_reducible show wpAny _ _ (storeName _ _ _) _ _ _); refine rSt (by assumption) ?_; intro _ _) | ((with_reducible show wpAny _ _ (isTrue (Expr.Compare _ [_] [_] _) _ _) _ _ _); refine wpAny_isTrue_Compare1 ?_) | with_reducible refine wpAny_truthy_bool ?_ | with_reducible refine rEq ?_ | ((with_reducible show wpAny _ _ (eval (Expr.Call _ _ [] _) _) _ _ _); refine Call_ ?_) | ((with_reducible show wpAny _ _ (spliced (backTo _ (starEach (_ :: _) _))) _ _ _); refine spliced_more ?_) | ((with_reducible show wpAny _ _ (spliced (backTo _ (starEach [] _))) _ _ _); refine spliced_none ?_) | with_reducible refine wpAny_IfExp ?_))
  refine call_int_int ?_
  show wpAny (model PP w) _ _ _ _ ⟨h3, gn, dr, tk4, os⟩
  repeat (first | (first | ((with_reducible show wpAny _ _ (execs (Stmt.Assign [Expr.Name _ _] _ _ :: _) _) _ _ _); refine rAs ?_) | with_reducible refine rRet ?_ | with_reducible refine rIf ?_ | with_reducible refine wpAny_BinOp ?_ | with_reducible refine rI ?_ | with_reducible refine rS ?_ | ((with_reducible show wpAny _ _ (eval (Expr.Name _ _) _) _ _ _); refine nL (by assumption) rfl ?_) | ((with_reducible show wpAny _ _ (storeName _ _ _) _ _ _); refine rSt (by assumption) ?_; intro _ _) | ((with_reducible show wpAny _ _ (isTrue (Expr.Compare _ [_] [_] _) _ _) _ _ _); refine wpAny_isTrue_Compare1 ?_) | with_reducible refine wpAny_truthy_bool ?_ | with_reducible refine rEq ?_ | ((with_reducible show wpAny _ _ (eval (Expr.Call _ _ [] _) _) _ _ _); refine Call_ ?_) | ((with_reducible show wpAny _ _ (spliced (backTo _ (starEach (_ :: _) _))) _ _ _); refine spliced_more ?_) | ((with_reducible show wpAny _ _ (spliced (backTo _ (starEach [] _))) _ _ _); refine spliced_none ?_) | with_reducible refine wpAny_IfExp ?_) | (dsimp only; first | ((with_reducible show wpAny _ _ (execs (Stmt.Assign [Expr.Name _ _] _ _ :: _) _) _ _ _); refine rAs ?_) | with_reducible refine rRet ?_ | with_reducible refine rIf ?_ | with_reducible refine wpAny_BinOp ?_ | with_reducible refine rI ?_ | with_reducible refine rS ?_ | ((with_reducible show wpAny _ _ (eval (Expr.Name _ _) _) _ _ _); refine nL (by assumption) rfl ?_) | ((with_reducible show wpAny _ _ (storeName _ _ _) _ _ _); refine rSt (by assumption) ?_; intro _ _) | ((with_reducible show wpAny _ _ (isTrue (Expr.Compare _ [_] [_] _) _ _) _ _ _); refine wpAny_isTrue_Compare1 ?_) | with_reducible refine wpAny_truthy_bool ?_ | with_reducible refine rEq ?_ | ((with_reducible show wpAny _ _ (eval (Expr.Call _ _ [] _) _) _ _ _); refine Call_ ?_) | ((with_reducible show wpAny _ _ (spliced (backTo _ (starEach (_ :: _) _))) _ _ _); refine spliced_more ?_) | ((with_reducible show wpAny _ _ (spliced (backTo _ (starEach [] _))) _ _ _); refine spliced_none ?_) | with_reducible refine wpAny_IfExp ?_))
  rename_i h5 F5
  refine rWhile (fun i s => ∃ h' tk' mm ds tn tv, s = ⟨h', gn, dr, tk', os⟩ ∧ FS g0 hp [] hp.objs.size h' mm [] ∧ hx x = ds ++ hx i ∧ mm "num" = some (.int i tn) ∧ mm "val" = some (.bytes (apB ds) tv) ∧ mm "AP" = some (.bytes APs t3)) ?_ x ?_
  · rintro J hJ i s ⟨h', tk', mm, ds, tn, tv, rfl, Fi, hds, mn, mv, ma⟩
    refine isTrue_plain ?_
    refine nL Fi mn ?_
    refine rTru ?_
    by_cases hi : i = 0
    · subst hi
      refine iteF (by simp) ?_
      refine rRet ?_
      refine nL Fi mv ?_
      rw [hx_zero, List.append_nil] at hds
      subst hds
      have q := fun tks => h tv h' tks Fi.ok Fi.kp
      exact q _
    refine iteT (by simp; (clear hs; omega)) ?_
    refine rAs2 ?_
    refine Call_ ?_
    refine nB G Fi rfl rfl ?_
    refine rCB ?_
    refine spliced_more ?_
    refine nL Fi mn ?_
    repeat (first | (first | ((with_reducible show wpAny _ _ (execs (Stmt.Assign [Expr.Name _ _] _ _ :: _) _) _ _ _); refine rAs ?_) | with_reducible refine rRet ?_ | with_reducible refine rIf ?_ | with_reducible refine wpAny_BinOp ?_ | with_reducible refine rI ?_ | with_reducible refine rS ?_ | ((with_reducible show wpAny _ _ (eval (Expr.Name _ _) _) _ _ _); refine nL (by assumption) rfl ?_) | ((with_reducible show wpAny _ _ (storeName _ _ _) _ _ _); refine rSt (by assumption) ?_; intro _ _) | ((with_reducible show wpAny _ _ (isTrue (Expr.Compare _ [_] [_] _) _ _) _ _ _); refine wpAny_isTrue_Compare1 ?_) | with_reducible refine wpAny_truthy_bool ?_ | with_reducible refine rEq ?_ | ((with_reducible show wpAny _ _ (eval (Expr.Call _ _ [] _) _) _ _ _); refine Call_ ?_) | ((with_reducible show wpAny _ _ (spliced (backTo _ (starEach (_ :: _) _))) _ _ _); refine spliced_more ?_) | ((with_reducible show wpAny _ _ (spliced (backTo _ (starEach [] _))) _ _ _); refine spliced_none ?_) | with_reducible refine wpAny_IfExp ?_) | (dsimp only; first | ((with_reducible show wpAny _ _ (execs (Stmt.Assign [Expr.Name _ _] _ _ :: _) _) _ _ _); refine rAs ?_) | with_reducible refine rRet ?_ | with_reducible refine rIf ?_ | with_reducible refine wpAny_BinOp ?_ | with_reducible refine rI ?_ | with_reducible refine rS ?_ | ((with_reducible show wpAny _ _ (eval (Expr.Name _ _) _) _ _ _); refine nL (by assumption) rfl ?_) | ((with_reducible show wpAny _ _ (storeName _ _ _) _ _ _); refine rSt (by assumption) ?_; intro _ _) | ((with_reducible show wpAny _ _ (isTrue (Expr.Compare _ [_] [_] _) _ _) _ _ _); refine wpAny_isTrue_Compare1 ?_) | with_reducible refine wpAny_truthy_bool ?_ | with_reducible refine rEq ?_ | ((with_reducible show wpAny _ _ (eval (Expr.Call _ _ [] _) _) _ _ _); refine Call_ ?_) | ((with_reducible show wpAny _ _ (spliced (backTo _ (starEach (_ :: _) _))) _ _ _); refine spliced_more ?_) | ((with_reducible show wpAny _ _ (spliced (backTo _ (starEach [] _))) _ _ _); refine spliced_none ?_) | with_reducible refine wpAny_IfExp ?_))
    refine rDivmod (b := 16) (by decide) (by decide) ?_
    intro u1 u2 tk2
    have F6 := Fi.psh { cls := .type "tuple", data := .seq #[.int (i / 16 : Nat) u1, .int (i % 16 : Nat) u2] }
    refine rTup2 F6 rm1.hd ⟨_, F6.at 0 rfl, rfl, _, rfl⟩ ?_
    intro h7 F7
    repeat (first | (first | ((with_reducible show wpAny _ _ (execs (Stmt.Assign [Expr.Name _ _] _ _ :: _) _) _ _ _); refine rAs ?_) | with_reducible refine rRet ?_ | with_reducible refine rIf ?_ | with_reducible refine wpAny_BinOp ?_ | with_reducible refine rI ?_ | with_reducible refine rS ?_ | ((with_reducible show wpAny _ _ (eval (Expr.Name _ _) _) _ _ _); refine nL (by assumption) rfl ?_) | ((with_reducible show wpAny _ _ (storeName _ _ _) _ _ _); refine rSt (by assumption) ?_; intro _ _) | ((with_reducible show wpAny _ _ (isTrue (Expr.Compare _ [_] [_] _) _ _) _ _ _); refine wpAny_isTrue_Compare1 ?_) | with_reducible refine wpAny_truthy_bool ?_ | with_reducible refine rEq ?_ | ((with_reducible show wpAny _ _ (eval (Expr.Call _ _ [] _) _) _ _ _); refine Call_ ?_) | ((with_reducible show wpAny _ _ (spliced (backTo _ (starEach (_ :: _) _))) _ _ _); refine spliced_more ?_) | ((with_reducible show wpAny _ _ (spliced (backTo _ (starEach [] _))) _ _ _); refine spliced_none ?_) | with_reducible refine wpAny_IfExp ?_) | (dsimp only; first | ((with_reducible show wpAny _ _ (execs (Stmt.Assign [Expr.Name _ _] _ _ :: _) _) _ _ _); refine rAs ?_) | with_reducible refine rRet ?_ | with_reducible refine rIf ?_ | with_reducible refine wpAny_BinOp ?_ | with_reducible refine rI ?_ | with_reducible refine rS ?_ | ((with_reducible show wpAny _ _ (eval (Expr.Name _ _) _) _ _ _); refine nL (by assumption) rfl ?_) | ((with_reducible show wpAny _ _ (storeName _ _ _) _ _ _); refine rSt (by assumption) ?_; intro _ _) | ((with_reducible show wpAny _ _ (isTrue (Expr.Compare _ [_] [_] _) _ _) _ _ _); refine wpAny_isTrue_Compare1 ?_) | with_reducible refine wpAny_truthy_bool ?_ | with_reducible refine rEq ?_ | ((with_reducible show wpAny _ _ (eval (Expr.Call _ _ [] _) _) _ _ _); refine Call_ ?_) | ((with_reducible show wpAny _ _ (spliced (backTo _ (starEach (_ :: _) _))) _ _ _); refine spliced_more ?_) | ((with_reducible show wpAny _ _ (spliced (backTo _ (starEach [] _))) _ _ _); refine spliced_none ?_) | with_reducible refine wpAny_IfExp ?_))
    refine rSub1 ?_
    refine nL F7 ma ?_
    refine rSlc ?_
    rw [evalPart_some]
    refine nL F7 rfl ?_
    rw [evalPart_some]
    repeat (first | (first | ((with_reducible show wpAny _ _ (execs (Stmt.Assign [Expr.Name _ _] _ _ :: _) _) _ _ _); refine rAs ?_) | with_reducible refine rRet ?_ | with_reducible refine rIf ?_ | with_reducible refine wpAny_BinOp ?_ | with_reducible refine rI ?_ | with_reducible refine rS ?_ | ((with_reducible show wpAny _ _ (eval (Expr.Name _ _) _) _ _ _); refine nL (by assumption) rfl ?_) | ((with_reducible show wpAny _ _ (storeName _ _ _) _ _ _); refine rSt (by assumption) ?_; intro _ _) | ((with_reducible show wpAny _ _ (isTrue (Expr.Compare _ [_] [_] _) _ _) _ _ _); refine wpAny_isTrue_Compare1 ?_) | with_reducible refine wpAny_truthy_bool ?_ | with_reducible refine rEq ?_ | ((with_reducible show wpAny _ _ (eval (Expr.Call _ _ [] _) _) _ _ _); refine Call_ ?_) | ((with_reducible show wpAny _ _ (spliced (backTo _ (starEach (_ :: _) _))) _ _ _); refine spliced_more ?_) | ((with_reducible show wpAny _ _ (spliced (backTo _ (starEach [] _))) _ _ _); refine spliced_none ?_) | with_reducible refine wpAny_IfExp ?_) | (dsimp only; first | ((with_reducible show wpAny _ _ (execs (Stmt.Assign [Expr.Name _ _] _ _ :: _) _) _ _ _); refine rAs ?_) | with_reducible refine rRet ?_ | with_reducible refine rIf ?_ | with_reducible refine wpAny_BinOp ?_ | with_reducible refine rI ?_ | with_reducible refine rS ?_ | ((with_reducible show wpAny _ _ (eval (Expr.Name _ _) _) _ _ _); refine nL (by assumption) rfl ?_) | ((with_reducible show wpAny _ _ (storeName _ _ _) _ _ _); refine rSt (by assumption) ?_; intro _ _) | ((with_reducible show wpAny _ _ (isTrue (Expr.Compare _ [_] [_] _) _ _) _ _ _); refine wpAny_isTrue_Compare1 ?_) | with_reducible refine wpAny_truthy_bool ?_ | with_reducible refine rEq ?_ | ((with_reducible show wpAny _ _ (eval (Expr.Call _ _ [] _) _) _ _ _); refine Call_ ?_) | ((with_reducible show wpAny _ _ (spliced (backTo _ (starEach (_ :: _) _))) _ _ _); refine spliced_more ?_) | ((with_reducible show wpAny _ _ (spliced (backTo _ (starEach [] _))) _ _ _); refine spliced_none ?_) | with_reducible refine wpAny_IfExp ?_))
    refine rAdd ((i % 16 + 1 : Nat) : Int) (by simp) ?_
    rw [evalPart_none]
    refine wpAny_pure ?_
    have hlen : ds.length + 1 ≤ 1000 := by
      rw [hds, List.length_append, hx_pos hi, List.length_cons] at hs
      (clear hi; omega)
    refine rBySl (.int _ _) (.int _ _) (by decide) ?_
    intro t8 k8
    rw [aps_one _ (Nat.mod_lt _ (by decide))]
    have F8 := F7.psh0 { cls := .type "slice", data := .fields #[.int (i % 16 : Nat) u2, .int ((i % 16 + 1 : Nat) : Int) (tk2 + 1 + 1 + 1), .none] }
    refine nL F8 mv ?_
    refine rByAdd (by simp [apB]; (clear hs hi; omega)) ?_
    intro t9 k9
    refine rSt F8 ?_
    intro h10 F10
    refine rNil ?_
    refine ⟨i / 16, Nat.div_lt_self (by (clear hs hlen; omega)) (by decide), hJ _ _ ⟨h10, _, _, ds ++ [i % 16], u1, t9, rfl, F10.drop (List.nil_sublist _), ?_, ?_, ?_, ?_⟩⟩
    · rw [hds, hx_pos hi, List.append_assoc]; rfl
    · rfl
    · have : #[ap (i % 16)] ++ apB ds = apB (ds ++ [i % 16]) := by
        unfold apB
        rw [List.reverse_append, List.map_append]
        simp
      rw [← this]
      rfl
    · exact ma
  · exact ⟨_, _, _, [], _, _, rfl, F5, rfl, rfl, rfl, rfl⟩
end Mine

namespace Mine
noncomputable def KQ (w : World) : Frag := (KK w).filter fun p => !tabs.contains p.1
theorem look_filter {a : Addr} {o : Obj} : ∀ {l : Frag}, (l.filter fun p => !tabs.contains p.1).lookup a = some o → l.lookup a = some o ∧ a ∉ tabs
  | [], e => nomatch e
  | p :: l, e => by
    rw [List.filter_cons] at e
    split at e
    · rename_i q
      obtain ⟨b, ob⟩ := p
      rw [List.lookup_cons] at e ⊢
      split at e
      · rename_i z
        cases e
        have : a = b := eq_of_beq z
        subst this
        exact ⟨rfl, by simpa using q⟩
      · exact look_filter e
    · rename_i q
      obtain ⟨b, ob⟩ := p
      have r := look_filter e
      rw [List.lookup_cons]
      have : (a == b) = false := by
        rw [beq_eq_false_iff_ne]
        rintro rfl
        exact q (by simpa using r.2)
      rw [this]
      exact r
theorem OK.Q {w : World} {mg mb : Str → Option Value} {g0 h : Heap} (k : OK g0 h) (G : Gd w mg mb g0) : (KQ w).In h := fun a o e => by
  obtain ⟨e1, e2⟩ := look_filter e
  exact k.kp a o (G.X _ _ e1) e2
theorem q_mk (w : World) : makesIn (KQ w) aLEX = true := by kernel_rfl
theorem q_init (w : World) : findIn (KQ w) (.ref aLEX) "__init__" = some (some (.ref aINIT)) := by kernel_rfl
theorem q_initf (w : World) : typeIn (KQ w) (.ref aINIT) = some (.type "function") := by kernel_rfl
theorem q_ga (w : World) : findIn (KQ w) (.ref aLEX) "__getattribute__" = some (some (.builtin "object.__getattribute__")) := by kernel_rfl
theorem q_gk (w : World) : findIn (KQ w) (.ref aLEX) "__getattr__" = some none := by kernel_rfl
theorem q_sa (w : World) : findIn (KQ w) (.ref aLEX) "__setattr__" = some (some (.builtin "object.__setattr__")) := by kernel_rfl
theorem q_gt (w : World) : findIn (KQ w) (.ref aLEX) "get_token" = some (some (.ref aGT)) := by kernel_rfl
theorem q_po (w : World) : plainOver (KQ w) aLEX = true := by kernel_rfl
theorem q_t1 (w : World) : takerIn (KQ w) aLEX "lineno" = some none := by kernel_rfl
theorem q_t2 (w : World) : takerIn (KQ w) aLEX "instream" = some none := by kernel_rfl
theorem q_t3 (w : World) : takerIn (KQ w) aLEX "whitespace" = some none := by kernel_rfl
theorem q_t4 (w : World) : takerIn (KQ w) aLEX "pushback" = some none := by kernel_rfl
theorem q_t5 (w : World) : takerIn (KQ w) aLEX "read" = some none := by kernel_rfl
theorem q_hd (w : World) : (clsIn (KQ w) aLEX).any (·.hasDict) = true := by kernel_rfl
end Mine

namespace Mine
theorem owner_ci : Manifest.owners.lookup (String.ofList ['r', 'o', 't', 'a', 'r', 'e', 't', 'i', '_', 'e', 'l', 'b', 'a', 'l', 'l', 'a', 'c'].reverse) = some Manifest.sig_callable_iterator := by kernel_rfl
theorem slot_ci_next : Slot "callable_iterator" "__next__" "callable_iterator.__next__" :=
  .of (owner := "callable_iterator") (n := "__next__") (by rw [typeLookup_type, builtinLookup_eq_fast]; kernel_rfl) (by decide +kernel) (by decide +kernel) (by decide +kernel)
    (by first | exact .inl (by decide +kernel) | exact .inr (by decide +kernel)) (by rw [isSubtype_type]; kernel_rfl)
theorem entry_ci_next : entryFor table "callable_iterator.__next__" = some Builtin.«callable_iterator.__next__» := entryFor_of_tree (by kernel_rfl)
theorem args_ci_next (a : Value) : argsOk "callable_iterator.__next__" ⟨[a], []⟩ := by
  unfold argsOk; rw [signature?_of (id := "callable_iterator.__next__") (n := ['_', '_', 't', 'x', 'e', 'n', '_', '_']) (o := ['r', 'o', 't', 'a', 'r', 'e', 't', 'i', '_', 'e', 'l', 'b', 'a', 'l', 'l', 'a', 'c']) (by kernel_rfl) owner_ci]; kernel_rfl
theorem slot_ci_iter : Slot "callable_iterator" "__iter__" "callable_iterator.__iter__" :=
  .of (owner := "callable_iterator") (n := "__iter__") (by rw [typeLookup_type, builtinLookup_eq_fast]; kernel_rfl) (by decide +kernel) (by decide +kernel) (by decide +kernel)
    (by first | exact .inl (by decide +kernel) | exact .inr (by decide +kernel)) (by rw [isSubtype_type]; kernel_rfl)
theorem args_ci_iter (a : Value) : argsOk "callable_iterator.__iter__" ⟨[a], []⟩ := by
  unfold argsOk; rw [signature?_of (id := "callable_iterator.__iter__") (n := ['_', '_', 'r', 'e', 't', 'i', '_', '_']) (o := ['r', 'o', 't', 'a', 'r', 'e', 't', 'i', '_', 'e', 'l', 'b', 'a', 'l', 'l', 'a', 'c']) (by kernel_rfl) owner_ci]; kernel_rfl
theorem entry_ci_iter : entryFor table "callable_iterator.__iter__" = some Builtin.«dict_keyiterator.__iter__» :=
  entryFor_alias (id' := "dict_keyiterator.__iter__") (by kernel_rfl) (by first | rfl | decide +kernel | (unfold String.splitOn; simp +decide [String.splitOnAux])) (by decide +kernel) (by kernel_rfl)
abbrev CIt (b : Addr) (t : Tok) : Obj := { cls := .type "callable_iterator", data := .fields #[.ref b, .str "" t, .bool false] }
abbrev CEnd : Obj := { cls := .type "callable_iterator", data := .fields #[.none, .none, .bool true] }
theorem entry_iter : entryFor table "iter" = some Builtin.«iter» := entryFor_of_tree (by kernel_rfl)
theorem args_iter2 (a b : Value) : argsOk "iter" ⟨[a, b], []⟩ := by unfold argsOk; kernel_rfl
theorem slot_m_call : typeLookup (.type "method") "__call__" = pure (some (.builtin "method.__call__")) := by rw [typeLookup_type, builtinLookup_eq_fast]; kernel_rfl
section
variable {w : World} {A : Around} {E : Value → Shared → Prop} {Q : Value → Shared → Prop} {t u : Tok} {hp : Heap} {gn : Array GenState} {dr : Drawn} {tk : Nat} {os : OsState} {pos : Pos} {k : Nat} {env : Env}
  {g0 g : Heap} {T : List Addr} {L : Addr} {m : Str → Option Value} {nw : List (Addr × Obj)} {mg mb : Str → Option Value}
theorem wpAny_borrowed {f : Value} {args : List Value} (hc : codeAny (model PP w) A (.call f ⟨args, []⟩) (fun r s' => match r with | .ok (.ret v) => Q v s' | .ok _ => False | .error e => E e s') ⟨hp, gn, dr, tk, os⟩) :
    wpAny (model PP w) A (callBorrowed f args) Q E ⟨hp, gn, dr, tk, os⟩ := fun Γ p hΓ => by
  have r := hc (Γ.enter (.call f ⟨args, []⟩) none p) p rfl (hΓ.enter (.call f ⟨args, []⟩) none p (by intro x; cases x))
  show wpCode _ _ _ _ _
  refine wpCode_mono (fun r s' z => ?_) r
  rcases r with e | (v | _ | _ | _) <;> first | exact z | exact z.elim
theorem rIter2 {b : Addr} {f : Value} {x : Value} {c : Str} (hb : hp.get? b = some (methodObj f x)) (h : Q (.ref hp.objs.size) ⟨hp.push { cls := .type "callable_iterator", data := .fields #[.ref b, .str c t, .bool false] }, gn, dr, tk, os⟩) :
    wpAny (model PP w) A (call (.builtin "iter") [.ref b, .str c t]) Q E ⟨hp, gn, dr, tk, os⟩ := by
  refine call_function_entry (by decide +kernel) (by decide +kernel) entry_iter (args_iter2 _ _) ?_
  unfold Builtin.«iter»
  refine wpAny_bind (m := someArgs "iter" 1 2 _) (wpAny_of_eq (a := [Value.ref b, .str c t]) (by first | rfl | kernel_rfl!) ?_)
  refine wpAny_bind (wpAny_specialOf (T := "method") ⟨_, hb, rfl⟩ slot_m_call ?_)
  show wpAny _ _ (rule _ >>= _) _ _ _
  refine wpAny_bind (wpAny_rule ?_)
  exact wpAny_bind (wpAny_newObj_type (wpAny_pure ⟨_, rfl, h⟩))
theorem rIterCI {it b : Addr} (hi : hp.get? it = some (CIt b t)) (h : Q (.ref it) ⟨hp, gn, dr, tk, os⟩) : wpAny (model PP w) A (pyIter (.ref it)) Q E ⟨hp, gn, dr, tk, os⟩ := by
  have ty : Shared.TypeIs ⟨hp, gn, dr, tk, os⟩ (.ref it) "callable_iterator" := ⟨_, hi, rfl⟩
  refine wpAny_pyIter_slot ty slot_ci_iter (wpAny_call_entry slot_ci_iter ty entry_ci_iter ?_ (args_ci_iter _))
  show wpAny _ _ (ret (.ref it)) _ _ _
  exact wpAny_pure ⟨_, rfl, "callable_iterator", _, ty, slot_ci_next.lookup, h⟩
theorem borrows {b f : Addr} {x : Value} {of : Obj} {fd : FuncData} {Q : Bool → Shared → Prop} {s : Shared} (hb : s.heap.get? b = some (methodObj (.ref f) x)) (hf : s.heap.get? f = some of) (hfd : of.data = .func fd)
    (h : Q true s) : wpAny (model PP w) A (borrowsExactly (.ref b)) Q E s := by
  unfold borrowsExactly
  refine wpAny_bind (wpAny_load hb ?_)
  dsimp only
  rw [if_pos (by decide)]
  show wpAny _ _ (load f >>= _) _ _ _
  refine wpAny_bind (wpAny_load hf ?_)
  rw [hfd]
  exact wpAny_pure h
theorem rNextCI {it b f : Addr} {x : Value} {of : Obj} {fd : FuncData} {Q : Option Value → Shared → Prop} (hA : A.handled = none) (hi : hp.get? it = some (CIt b t)) (hb : hp.get? b = some (methodObj (.ref f) x)) (hf : hp.get? f = some of) (hfd : of.data = .func fd)
    (h : codeAny (model PP w) A.in1 (.call (.ref f) ⟨[x], []⟩) (fun r s' => match r with
      | .ok (.ret v) => ∃ c tc, v = .str c tc ∧ s'.heap.get? it = some (CIt b t) ∧ s'.heap.get? b = some (methodObj (.ref f) x) ∧ s'.heap.get? f = some of ∧
        (if c = "" then ∀ h', Heap.ExtBut it s'.heap h' → h'.get? it = some CEnd → Q none { s' with heap := h' } else Q (some v) s')
      | _ => False) ⟨hp, gn, dr, tk, os⟩) :
    wpAny (model PP w) A (pyNext (.ref it)) Q E ⟨hp, gn, dr, tk, os⟩ := by
  have ty : Shared.TypeIs ⟨hp, gn, dr, tk, os⟩ (.ref it) "callable_iterator" := ⟨_, hi, rfl⟩
  unfold pyNext
  refine wpAny_bind (wpAny_attempt (wpAny_callSpecial?_slot (name := Str.ofString "__next__") ty slot_ci_next
    (wpAny_call_entry slot_ci_next ty entry_ci_next ?_ (args_ci_next _))))
  unfold Builtin.«callable_iterator.__next__»
  refine wpAny_bind (wpAny_of_eq (a := (Value.ref it, [])) rfl ?_)
  try dsimp only
  refine wpAny_bind (wpAny_field hi rfl (x := .bool false) rfl ?_)
  rw [if_neg (by decide)]
  refine wpAny_bind ?_
  refine wpAny_field hi rfl (x := .ref b) rfl ?_
  refine wpAny_bind (wpAny_attempt ?_)
  unfold callOutOfASlot
  refine wpAny_bind ?_
  refine borrows hb hf hfd ?_
  rw [if_pos rfl]
  refine wpAny_borrowed ?_
  refine ks_codeAny_call_bound hb ?_
  refine codeAny_mono h fun r s' z => ?_
  rcases r with e | (_ | _ | _ | v)
  · exact z.elim
  · exact z.elim
  · exact z.elim
  · exact z.elim
  · obtain ⟨c, tc, rfl, hi', hb', hf', z⟩ := z
    dsimp only
    refine wpAny_bind (wpAny_field hi' rfl (x := .bool false) rfl ?_)
    rw [if_neg (by decide)]
    refine wpAny_bind ?_
    refine wpAny_field hi' rfl (x := .str "" t) rfl ?_
    refine wpAny_bind (wpAny_holding ?_)
    refine eqBool_str ?_
    by_cases hc : c = ""
    · subst hc
      rw [if_pos rfl] at z
      rw [if_neg (by decide)]
      refine wpAny_bind (wpAny_rule ?_)
      refine wpAny_bind ?_
      show wpAny _ _ (field (.ref it) 0 >>= _) _ _ _
      refine wpAny_bind (wpAny_field hi' rfl (x := .ref b) rfl ?_)
      refine wpAny_bind ?_
      unfold slotLetsGo
      dsimp only
      refine wpAny_bind (borrows hb' hf' hfd ?_)
      rw [if_pos rfl]
      refine wpAny_pure ?_
      refine wpAny_bind (wpAny_setField_rec hi' (by simp) fun h1 e1 S1 => ?_)
      refine wpAny_bind (wpAny_setField_rec e1 (by simp) fun h2 e2 S2 => ?_)
      refine wpAny_setField_rec e2 (by simp) fun h3 e3 S3 => ?_
      show wpAny _ _ (newExc (.type "StopIteration") [] >>= _) _ _ _
      refine wpAny_bind ?_
      simp only [newExc, newTuple]
      refine wpAny_bind (wpAny_newObj_type ?_ (by size_fits))
      refine wpAny_bind (m := firstArgMember _ _) (wpAny_of_eq (a := Value.none) (by first | rfl | (simp only [firstArgMember]; rfl)) ?_)
      refine wpAny_newObj_type ?_ (by size_fits)
      simp only [raiseNew]
      refine wpAny_bind (wpAny_handled ?_)
      first | rw [show A.in1.handled = none from hA] | rw [hA]
      refine wpAny_bind (wpAny_pure (wpAny_throw ?_))
      refine wpAny_bind (wpAny_isInstance (T := "StopIteration") (b := true) ⟨_, Heap.get?_push_size _ rfl, rfl⟩ isSubtype_stop ?_)
      refine wpAny_pure (z _ (((?_ : Heap.ExtBut it s'.heap h3).push _).push _) (Heap.get?_push_of_some _ (Heap.get?_push_of_some _ e3)))
      intro y o hy e
      exact (S3.2 y hy).trans ((S2.2 y hy).trans ((S1.2 y hy).trans e))
    · rw [if_neg hc] at z
      rw [if_pos (by have : ((Str.ofString "" : Str) == c) = false := beq_eq_false_iff_ne.mpr (Ne.symm hc)
                     rw [this]; rfl)]
      exact wpAny_pure ⟨_, rfl, wpAny_pure z⟩
theorem rNextCE {it : Addr} {Q : Option Value → Shared → Prop} (hA : A.handled = none) (hi : hp.get? it = some CEnd) (h : ∀ h', Heap.ExtBut hp.objs.size hp h' → Q none ⟨h', gn, dr, tk, os⟩) :
    wpAny (model PP w) A (pyNext (.ref it)) Q E ⟨hp, gn, dr, tk, os⟩ := by
  have ty : Shared.TypeIs ⟨hp, gn, dr, tk, os⟩ (.ref it) "callable_iterator" := ⟨_, hi, rfl⟩
  unfold pyNext
  refine wpAny_bind (wpAny_attempt (wpAny_callSpecial?_slot (name := Str.ofString "__next__") ty slot_ci_next
    (wpAny_call_entry slot_ci_next ty entry_ci_next ?_ (args_ci_next _))))
  unfold Builtin.«callable_iterator.__next__»
  refine wpAny_bind (wpAny_of_eq (a := (Value.ref it, [])) rfl ?_)
  try dsimp only
  refine wpAny_bind (wpAny_field hi rfl (x := .bool true) rfl ?_)
  rw [if_pos (by decide)]
  refine wpAny_bind (wpAny_rule ?_)
  refine wpAny_bind ?_
  show wpAny _ _ (newExc (.type "StopIteration") [] >>= _) _ _ _
  refine wpAny_bind ?_
  simp only [newExc, newTuple]
  refine wpAny_bind (wpAny_newObj_type ?_ (by size_fits))
  refine wpAny_bind (m := firstArgMember _ _) (wpAny_of_eq (a := Value.none) (by first | rfl | (simp only [firstArgMember]; rfl)) ?_)
  refine wpAny_newObj_type ?_ (by size_fits)
  simp only [raiseNew]
  refine wpAny_bind (wpAny_handled ?_)
  first | rw [show A.in1.handled = none from hA] | rw [hA]
  refine wpAny_bind (wpAny_pure (wpAny_throw ?_))
  refine wpAny_bind (wpAny_isInstance (T := "StopIteration") (b := true) ⟨_, Heap.get?_push_size _ rfl, rfl⟩ isSubtype_stop ?_)
  refine wpAny_pure (h _ ?_)
  exact (((Heap.ExtBut.refl _ _).push _).push _)
end
end Mine

namespace Mine
abbrev aE (w : World) (name : Str) (t : Tok) (v : Value) : DictEntry := ⟨PyData.keyHash w.params name, .str name t, v⟩
abbrev aD (es : List DictEntry) (n : Nat) : Obj := { cls := .type "dict", data := .dict es.toArray n }
theorem q_rd (w : World) : findIn (KQ w) (.ref aLEX) "read" = some none := by kernel_rfl
theorem q_rcf (w : World) : typeIn (KQ w) (.ref aRC) = some (.type "function") := by kernel_rfl
theorem q_gtf (w : World) : typeIn (KQ w) (.ref aGT) = some (.type "function") := by kernel_rfl
section
variable {w : World} {A : Around} {E : Value → Shared → Prop} {Q : Value → Shared → Prop} {t u : Tok} {hp : Heap} {gn : Array GenState} {dr : Drawn} {tk : Nat} {os : OsState} {pos : Pos} {k : Nat} {env : Env}
  {g0 g : Heap} {T : List Addr} {L : Addr} {m : Str → Option Value} {nw : List (Addr × Obj)} {mg mb : Str → Option Value}
theorem inst {x dx : Addr} {od : Obj} (hx : hp.get? x = some (instObj aLEX dx)) (hd : hp.get? dx = some od) : InstAt hp x (instObj aLEX dx) aLEX (some od) := ⟨hx, rfl, rfl, hd⟩
theorem rSAS {Q : Unit → Shared → Prop} {x dx : Addr} {od od' : Obj} {name : Str} {v : Value} {es : List DictEntry} {n : Nat} (G : Gd w mg mb g0) (F : FS g0 g T L hp m nw) (i : Nat) (hi : nw[i]? = some (dx, od)) (hx : hp.get? x = some (instObj aLEX dx))
    (ht : takerIn (KQ w) aLEX name = some none) (hl : (lookIn name od).isSome = true) (hn : NC od)
    (e : Obj.putName name (PyData.keyHash w.params name) (.str name (tk + 1)) v od = od') (e' : od'.data = .dict es.toArray n) (hz : es.length ≤ 1000)
    (h : ∀ h', Heap.SameBut dx hp h' → FS g0 g T L h' m (nw.set i (dx, od')) → Q () ⟨h', gn, dr, tk + 1 + 1, os⟩) : wpAny (model PP w) A (setAttr (.ref x) name v) Q E ⟨hp, gn, dr, tk, os⟩ := by
  have X := F.ok.Q G
  have I := inst hx (F.at i hi)
  refine set_plain X I (q_sa w) ?_
  refine osa_open (s := ⟨hp, gn, dr, tk + 1, os⟩) X I (q_po w) ht fun b => ?_
  have D := F.at i hi
  have fr : od'.isFreed = false := by obtain ⟨_, _, dd, _⟩ := od'; cases e'; rfl
  have F' := F.set' i hi hn e fr
  have D' := F'.at i (by rw [List.getElem?_set_self (by have := List.getElem?_eq_some_iff.mp hi; exact this.1)])
  obtain ⟨cd, hc, hd'⟩ := any_some (q_hd w)
  refine wpAny_bind (wpAny_pure (wpAny_bind (wpAny_bind (wpAny_loadPart hx (wpAny_bind ((looks_clsIn X hc).here ?_))))))
  rw [hd']
  refine wpAny_pure (a := some dx) (wpAny_bind (wpAny_pure (wpAny_bind ?_)))
  unfold nsSet
  refine wpAny_bind (wpAny_bind (wpAny_askSetting (wpAny_pure (wpAny_bind (wpAny_mkText (wpAny_bind (wpAny_loadPart D ?_)))))))
  unfold lookIn at hl
  split at hl
  · rename_i es₀ n₀ q
    rw [q]
    dsimp only
    have c : (!es₀.any (·.key.isStr name) && es₀.any (·.refKey)) = false := by
      rw [← Array.any_toList, ← Array.any_toList]
      split at hl
      · rename_i en he
        rw [List.any_eq_true.mpr ⟨en, List.mem_of_find?_eq_some he, List.find?_some he⟩]; rfl
      · split at hl
        · cases hl
        · rename_i z; rw [Bool.not_eq_true] at z; rw [z, Bool.and_false]
    rw [aRefKeyMayBeTheName_at, c]
    refine wpAny_updatePart D ?_
    refine wpAny_bind (wpAny_lookBehind D' (by rw [e']; exact pastItsLine_dict (by rw [List.size_toArray, sizeLine_eq]; omega)) ?_)
    exact wpAny_pure (h _ (Heap.SameBut.update ..) F')
  · cases hl
theorem rSA {Q : Unit → Shared → Prop} {x dx : Addr} {od od' : Obj} {name : Str} {v : Value} {es : List DictEntry} {n : Nat} (G : Gd w mg mb g0) (F : FS g0 g T L hp m nw) (i : Nat) (hi : nw[i]? = some (dx, od)) (hx : hp.get? x = some (instObj aLEX dx))
    (ht : takerIn (KQ w) aLEX name = some none) (hl : (lookIn name od).isSome = true) (hn : NC od)
    (e : Obj.putName name (PyData.keyHash w.params name) (.str name (tk + 1)) v od = od') (e' : od'.data = .dict es.toArray n) (hz : es.length ≤ 1000)
    (h : ∀ h', FS g0 g T L h' m (nw.set i (dx, od')) → Q () ⟨h', gn, dr, tk + 1 + 1, os⟩) : wpAny (model PP w) A (setAttr (.ref x) name v) Q E ⟨hp, gn, dr, tk, os⟩ :=
  rSAS G F i hi hx ht hl hn e e' hz fun h' _ F' => h h' F'
theorem rGA {x dx : Addr} {od : Obj} {name : Str} {v : Value} {ex : Bool} (G : Gd w mg mb g0) (k : OK g0 hp) (hx : hp.get? x = some (instObj aLEX dx)) (hd : hp.get? dx = some od)
    (hf : findObj (KQ w) aLEX (some od) name = some (.value v)) (hh : handedIn v = true) (h : Q v ⟨hp, gn, dr, tk + 1, os⟩) : wpAny (model PP w) A (getAttr (.ref x) name ex) Q E ⟨hp, gn, dr, tk, os⟩ :=
  get_value (k.Q G) (inst hx hd) (q_ga w) hf hh h
theorem rGB {x dx f : Addr} {od : Obj} {name : Str} {ex : Bool} (G : Gd w mg mb g0) (k : OK g0 hp) (hx : hp.get? x = some (instObj aLEX dx)) (hd : hp.get? dx = some od)
    (hf : findObj (KQ w) aLEX (some od) name = some (.bind (.builtin "function.__get__") (.ref f))) (ht : typeIn (KQ w) (.ref f) = some (.type "function"))
    (h : ∀ tk', Q (.ref hp.objs.size) ⟨hp.push (methodObj (.ref f) (.ref x)), gn, dr, tk', os⟩) : wpAny (model PP w) A (getAttr (.ref x) name ex) Q E ⟨hp, gn, dr, tk, os⟩ := by
  refine get_bind (k.Q G) (inst hx hd) (q_ga w) hf (q_gk w) ?_
  refine wpAny_call ?_
  refine fn_get (k.Q G) ht ?_
  exact handed_on rfl (h _)
theorem rGMf {x dx f : Addr} {od : Obj} {name : Str} {pl : Sem Bool} {QM : Value × List Value → Shared → Prop} (G : Gd w mg mb g0) (k : OK g0 hp) (hx : hp.get? x = some (instObj aLEX dx)) (hd : hp.get? dx = some od)
    (hf : findIn (KQ w) (.ref aLEX) name = some (some (.ref f))) (ht : typeIn (KQ w) (.ref f) = some (.type "function")) (hs : shadowIn (some od) name = some false)
    (h : QM (.ref f, [.ref x]) ⟨hp, gn, dr, tk, os⟩) : wpAny (model PP w) A (getMethod (.ref x) name pl) QM E ⟨hp, gn, dr, tk, os⟩ := method_fn (k.Q G) (inst hx hd) (q_ga w) (q_gk w) hf ht hs h
theorem rGMd {x dx : Addr} {od : Obj} {name : Str} {v : Value} {pl : Sem Bool} {QM : Value × List Value → Shared → Prop} (G : Gd w mg mb g0) (k : OK g0 hp) (hx : hp.get? x = some (instObj aLEX dx)) (hd : hp.get? dx = some od)
    (hf : findIn (KQ w) (.ref aLEX) name = some none) (hv : findObj (KQ w) aLEX (some od) name = some (.value v)) (hh : handedIn v = true)
    (h : QM (v, []) ⟨hp, gn, dr, tk + 1, os⟩) : wpAny (model PP w) A (getMethod (.ref x) name pl) QM E ⟨hp, gn, dr, tk, os⟩ := method_usual (k.Q G) (inst hx hd) (q_ga w) (q_gk w) hf rfl (rGA G k hx hd hv hh h)
theorem rNewI {rest : List Value} {R : Result → Shared → Prop} (G : Gd w mg mb g0) (k : OK g0 hp)
    (h : codeAny (model PP w) (A.under (.builtin "type.__call__" ⟨.ref aLEX :: rest, []⟩)) (.call (.ref aINIT) ⟨.ref (hp.objs.size + 1) :: rest, []⟩) (InitBack (hp.objs.size + 1) R) ⟨(hp.push emptyDict).push (instObj aLEX hp.objs.size), gn, dr, tk, os⟩) :
    codeAny (model PP w) A (.call (.ref aLEX) ⟨rest, []⟩) R ⟨hp, gn, dr, tk, os⟩ :=
  make_core (makes_of (k.Q G) (q_mk w)) (looks_findIn (k.Q G) (q_init w)) (fun self => bind_fn (k.Q G) self (q_initf w)) (.inl rfl) h
end
end Mine

namespace Mine
theorem Rm.under {A : Around} {n : Nat} {c : Addr} {rest : List Value} (r : Rm A (n + 1)) : Rm (A.under (.builtin "type.__call__" ⟨.ref c :: rest, []⟩)) n := by
  have e1 : Code.weight (.builtin "type.__call__" ⟨.ref c :: rest, []⟩) = 1 := by rfl
  have e2 : Code.cUnits (.builtin "type.__call__" ⟨.ref c :: rest, []⟩) ≤ 20 := by
    show _ ≤ _
    first | exact Nat.le_of_ble_eq_true (by rfl) | decide
  refine ⟨r.hd, ?_, ?_⟩
  · have := r.dp
    show A.depth + Code.weight (.builtin "type.__call__" ⟨.ref c :: rest, []⟩) + n < _
    (clear e2; omega)
  · have := r.un
    show A.units + Code.cUnits (.builtin "type.__call__" ⟨.ref c :: rest, []⟩) + 20 * n < _
    (clear e1; omega)
abbrev lexD (w : World) (t1 t2 t3 t4 : Tok) (ln fp ws : Value) (pb : Addr) : Obj := aD [aE w "lineno" t1 ln, aE w "instream" t2 fp, aE w "whitespace" t3 ws, aE w "pushback" t4 (.ref pb)] 4
theorem dict_nc {es : Array DictEntry} {n : Nat} {o : Obj} (hd : o.data = .dict es n) : NC o := fun vs q t z => by rw [hd] at z; cases z
section
variable {w : World} {A : Around} {E : Value → Shared → Prop} {t u : Tok} {hp : Heap} {gn : Array GenState} {dr : Drawn} {tk : Nat} {os : OsState} {pos : Pos} {k : Nat} {env : Env}
  {g0 g : Heap} {T : List Addr} {L : Addr} {m : Str → Option Value} {nw : List (Addr × Obj)} {mg mb : Str → Option Value}
theorem rAsA {o : Expr} {attr : Str} {pos' : Pos} {value : Expr} {rest : List Stmt} {Q : Flow → Shared → Prop}
    (h : wpAny (model PP w) A (eval value env) (fun v s₁ => wpAny (model PP w) A (eval o env) (fun ov s₂ => wpAny (model PP w) A (setAttr ov attr v) (fun _ s₃ => wpAny (model PP w) A (execs rest env) Q E s₃) E s₂) E s₁) E ⟨hp, gn, dr, tk, os⟩)
    (hs : swapsWith value (some (.Attribute o attr pos')) pos.line env = pure false := by rfl) : wpAny (model PP w) A (execs (.Assign [.Attribute o attr pos'] value pos :: rest) env) Q E ⟨hp, gn, dr, tk, os⟩ :=
  wpAny_execs_cons (plainObj_wpAny_Assign_Attribute h hs)
end
theorem c_init {w : World} {mg mb : Str → Option Value} {g0 : Heap} (G : Gd w mg mb g0) {A : Around} {R : Result → Shared → Prop} {hp : Heap} {gn : Array GenState} {dr : Drawn} {tk0 : Nat} {os : OsState} (k : OK g0 hp) {x dx : Addr} {fp : Value}
  (rm : Rm A 3) (hx : hp.get? x = some (instObj aLEX dx)) (hd : hp.get? dx = some emptyDict) (hx0 : g0.objs.size ≤ x) (hd0 : g0.objs.size ≤ dx) (hne : @Ne Nat x dx)
 (h : ∀ t1 t2 t3 t4 u1 u3 pb h' tks, OK g0 h' → Kp [dx] hp h' → h'.get? dx = some (lexD w t1 t2 t3 t4 (.int 1 u1) fp (.str "\n\t\r " u3) pb) → hp.objs.size ≤ pb → h'.get? pb = some (LO [] 0) → R (.ok (.ret .none)) ⟨h', gn, dr, tks, os⟩) :
  codeAny (model PP w) A (.call (.ref aINIT) ⟨[.ref x, fp], []⟩) R ⟨hp, gn, dr, tk0, os⟩ := by
  refine ent (T := [dx]) (n := 2) (binds := [("self", .ref x), ("fp", fp)]) G k rm (k.at0 G rfl) rfl (k.code G rfl) rfl rfl rfl rfl rfl rfl rfl ?_
  intro h1 tk1 F rm1 kk
  have F1 := F.addT (kk _ _ hd) (List.mem_singleton.mpr rfl) hd0 (fun _ q => (nomatch q)) (Nat.ne_of_lt (Heap.lt_size hd))
  have hx1 := kk _ _ hx
  refine rAsA ?_
  repeat (first | (first | ((with_reducible show wpAny _ _ (execs (Stmt.Assign [Expr.Name _ _] _ _ :: _) _) _ _ _); refine rAs ?_) | with_reducible refine rRet ?_ | with_reducible refine rIf ?_ | with_reducible refine wpAny_BinOp ?_ | with_reducible refine rI ?_ | with_reducible refine rS ?_ | ((with_reducible show wpAny _ _ (eval (Expr.Name _ _) _) _ _ _); refine nL (by assumption) rfl ?_) | ((with_reducible show wpAny _ _ (storeName _ _ _) _ _ _); refine rSt (by assumption) ?_; intro _ _) | ((with_reducible show wpAny _ _ (isTrue (Expr.Compare _ [_] [_] _) _ _) _ _ _); refine wpAny_isTrue_Compare1 ?_) | with_reducible refine wpAny_truthy_bool ?_ | with_reducible refine rEq ?_ | ((with_reducible show wpAny _ _ (eval (Expr.Call _ _ [] _) _) _ _ _); refine Call_ ?_) | ((with_reducible show wpAny _ _ (spliced (backTo _ (starEach (_ :: _) _))) _ _ _); refine spliced_more ?_) | ((with_reducible show wpAny _ _ (spliced (backTo _ (starEach [] _))) _ _ _); refine spliced_none ?_) | with_reducible refine wpAny_IfExp ?_) | (dsimp only; first | ((with_reducible show wpAny _ _ (execs (Stmt.Assign [Expr.Name _ _] _ _ :: _) _) _ _ _); refine rAs ?_) | with_reducible refine rRet ?_ | with_reducible refine rIf ?_ | with_reducible refine wpAny_BinOp ?_ | with_reducible refine rI ?_ | with_reducible refine rS ?_ | ((with_reducible show wpAny _ _ (eval (Expr.Name _ _) _) _ _ _); refine nL (by assumption) rfl ?_) | ((with_reducible show wpAny _ _ (storeName _ _ _) _ _ _); refine rSt (by assumption) ?_; intro _ _) | ((with_reducible show wpAny _ _ (isTrue (Expr.Compare _ [_] [_] _) _ _) _ _ _); refine wpAny_isTrue_Compare1 ?_) | with_reducible refine wpAny_truthy_bool ?_ | with_reducible refine rEq ?_ | ((with_reducible show wpAny _ _ (eval (Expr.Call _ _ [] _) _) _ _ _); refine Call_ ?_) | ((with_reducible show wpAny _ _ (spliced (backTo _ (starEach (_ :: _) _))) _ _ _); refine spliced_more ?_) | ((with_reducible show wpAny _ _ (spliced (backTo _ (starEach [] _))) _ _ _); refine spliced_none ?_) | with_reducible refine wpAny_IfExp ?_))
  refine rSA (es := [aE w "lineno" _ (.int 1 tk1)]) G F1 0 rfl hx1 (q_t1 w) (by rfl) (dict_nc rfl) rfl rfl (by simp) ?_
  intro h2 F2
  have nx : x ∉ [dx] := fun q => hne (List.mem_singleton.mp q)
  refine rAsA ?_
  repeat (first | (first | ((with_reducible show wpAny _ _ (execs (Stmt.Assign [Expr.Name _ _] _ _ :: _) _) _ _ _); refine rAs ?_) | with_reducible refine rRet ?_ | with_reducible refine rIf ?_ | with_reducible refine wpAny_BinOp ?_ | with_reducible refine rI ?_ | with_reducible refine rS ?_ | ((with_reducible show wpAny _ _ (eval (Expr.Name _ _) _) _ _ _); refine nL (by assumption) rfl ?_) | ((with_reducible show wpAny _ _ (storeName _ _ _) _ _ _); refine rSt (by assumption) ?_; intro _ _) | ((with_reducible show wpAny _ _ (isTrue (Expr.Compare _ [_] [_] _) _ _) _ _ _); refine wpAny_isTrue_Compare1 ?_) | with_reducible refine wpAny_truthy_bool ?_ | with_reducible refine rEq ?_ | ((with_reducible show wpAny _ _ (eval (Expr.Call _ _ [] _) _) _ _ _); refine Call_ ?_) | ((with_reducible show wpAny _ _ (spliced (backTo _ (starEach (_ :: _) _))) _ _ _); refine spliced_more ?_) | ((with_reducible show wpAny _ _ (spliced (backTo _ (starEach [] _))) _ _ _); refine spliced_none ?_) | with_reducible refine wpAny_IfExp ?_) | (dsimp only; first | ((with_reducible show wpAny _ _ (execs (Stmt.Assign [Expr.Name _ _] _ _ :: _) _) _ _ _); refine rAs ?_) | with_reducible refine rRet ?_ | with_reducible refine rIf ?_ | with_reducible refine wpAny_BinOp ?_ | with_reducible refine rI ?_ | with_reducible refine rS ?_ | ((with_reducible show wpAny _ _ (eval (Expr.Name _ _) _) _ _ _); refine nL (by assumption) rfl ?_) | ((with_reducible show wpAny _ _ (storeName _ _ _) _ _ _); refine rSt (by assumption) ?_; intro _ _) | ((with_reducible show wpAny _ _ (isTrue (Expr.Compare _ [_] [_] _) _ _) _ _ _); refine wpAny_isTrue_Compare1 ?_) | with_reducible refine wpAny_truthy_bool ?_ | with_reducible refine rEq ?_ | ((with_reducible show wpAny _ _ (eval (Expr.Call _ _ [] _) _) _ _ _); refine Call_ ?_) | ((with_reducible show wpAny _ _ (spliced (backTo _ (starEach (_ :: _) _))) _ _ _); refine spliced_more ?_) | ((with_reducible show wpAny _ _ (spliced (backTo _ (starEach [] _))) _ _ _); refine spliced_none ?_) | with_reducible refine wpAny_IfExp ?_))
  refine rSA (es := [aE w "lineno" _ (.int 1 tk1), aE w "instream" _ fp]) G F2 0 rfl (F2.kp.kp x _ hx (k.nt hx0) nx) (q_t2 w) (by rfl) (dict_nc rfl) rfl rfl (by simp) ?_
  intro h3 F3
  refine rAsA ?_
  repeat (first | (first | ((with_reducible show wpAny _ _ (execs (Stmt.Assign [Expr.Name _ _] _ _ :: _) _) _ _ _); refine rAs ?_) | with_reducible refine rRet ?_ | with_reducible refine rIf ?_ | with_reducible refine wpAny_BinOp ?_ | with_reducible refine rI ?_ | with_reducible refine rS ?_ | ((with_reducible show wpAny _ _ (eval (Expr.Name _ _) _) _ _ _); refine nL (by assumption) rfl ?_) | ((with_reducible show wpAny _ _ (storeName _ _ _) _ _ _); refine rSt (by assumption) ?_; intro _ _) | ((with_reducible show wpAny _ _ (isTrue (Expr.Compare _ [_] [_] _) _ _) _ _ _); refine wpAny_isTrue_Compare1 ?_) | with_reducible refine wpAny_truthy_bool ?_ | with_reducible refine rEq ?_ | ((with_reducible show wpAny _ _ (eval (Expr.Call _ _ [] _) _) _ _ _); refine Call_ ?_) | ((with_reducible show wpAny _ _ (spliced (backTo _ (starEach (_ :: _) _))) _ _ _); refine spliced_more ?_) | ((with_reducible show wpAny _ _ (spliced (backTo _ (starEach [] _))) _ _ _); refine spliced_none ?_) | with_reducible refine wpAny_IfExp ?_) | (dsimp only; first | ((with_reducible show wpAny _ _ (execs (Stmt.Assign [Expr.Name _ _] _ _ :: _) _) _ _ _); refine rAs ?_) | with_reducible refine rRet ?_ | with_reducible refine rIf ?_ | with_reducible refine wpAny_BinOp ?_ | with_reducible refine rI ?_ | with_reducible refine rS ?_ | ((with_reducible show wpAny _ _ (eval (Expr.Name _ _) _) _ _ _); refine nL (by assumption) rfl ?_) | ((with_reducible show wpAny _ _ (storeName _ _ _) _ _ _); refine rSt (by assumption) ?_; intro _ _) | ((with_reducible show wpAny _ _ (isTrue (Expr.Compare _ [_] [_] _) _ _) _ _ _); refine wpAny_isTrue_Compare1 ?_) | with_reducible refine wpAny_truthy_bool ?_ | with_reducible refine rEq ?_ | ((with_reducible show wpAny _ _ (eval (Expr.Call _ _ [] _) _) _ _ _); refine Call_ ?_) | ((with_reducible show wpAny _ _ (spliced (backTo _ (starEach (_ :: _) _))) _ _ _); refine spliced_more ?_) | ((with_reducible show wpAny _ _ (spliced (backTo _ (starEach [] _))) _ _ _); refine spliced_none ?_) | with_reducible refine wpAny_IfExp ?_))
  refine rSA (es := [aE w "lineno" _ (.int 1 tk1), aE w "instream" _ fp, aE w "whitespace" _ (.str "\n\t\r " _)]) G F3 0 rfl (F3.kp.kp x _ hx (k.nt hx0) nx) (q_t3 w) (by rfl) (dict_nc rfl) rfl rfl (by simp) ?_
  intro h4 F4
  refine rAsA ?_
  refine rList ?_
  repeat (first | (first | ((with_reducible show wpAny _ _ (execs (Stmt.Assign [Expr.Name _ _] _ _ :: _) _) _ _ _); refine rAs ?_) | with_reducible refine rRet ?_ | with_reducible refine rIf ?_ | with_reducible refine wpAny_BinOp ?_ | with_reducible refine rI ?_ | with_reducible refine rS ?_ | ((with_reducible show wpAny _ _ (eval (Expr.Name _ _) _) _ _ _); refine nL (by assumption) rfl ?_) | ((with_reducible show wpAny _ _ (storeName _ _ _) _ _ _); refine rSt (by assumption) ?_; intro _ _) | ((with_reducible show wpAny _ _ (isTrue (Expr.Compare _ [_] [_] _) _ _) _ _ _); refine wpAny_isTrue_Compare1 ?_) | with_reducible refine wpAny_truthy_bool ?_ | with_reducible refine rEq ?_ | ((with_reducible show wpAny _ _ (eval (Expr.Call _ _ [] _) _) _ _ _); refine Call_ ?_) | ((with_reducible show wpAny _ _ (spliced (backTo _ (starEach (_ :: _) _))) _ _ _); refine spliced_more ?_) | ((with_reducible show wpAny _ _ (spliced (backTo _ (starEach [] _))) _ _ _); refine spliced_none ?_) | with_reducible refine wpAny_IfExp ?_) | (dsimp only; first | ((with_reducible show wpAny _ _ (execs (Stmt.Assign [Expr.Name _ _] _ _ :: _) _) _ _ _); refine rAs ?_) | with_reducible refine rRet ?_ | with_reducible refine rIf ?_ | with_reducible refine wpAny_BinOp ?_ | with_reducible refine rI ?_ | with_reducible refine rS ?_ | ((with_reducible show wpAny _ _ (eval (Expr.Name _ _) _) _ _ _); refine nL (by assumption) rfl ?_) | ((with_reducible show wpAny _ _ (storeName _ _ _) _ _ _); refine rSt (by assumption) ?_; intro _ _) | ((with_reducible show wpAny _ _ (isTrue (Expr.Compare _ [_] [_] _) _ _) _ _ _); refine wpAny_isTrue_Compare1 ?_) | with_reducible refine wpAny_truthy_bool ?_ | with_reducible refine rEq ?_ | ((with_reducible show wpAny _ _ (eval (Expr.Call _ _ [] _) _) _ _ _); refine Call_ ?_) | ((with_reducible show wpAny _ _ (spliced (backTo _ (starEach (_ :: _) _))) _ _ _); refine spliced_more ?_) | ((with_reducible show wpAny _ _ (spliced (backTo _ (starEach [] _))) _ _ _); refine spliced_none ?_) | with_reducible refine wpAny_IfExp ?_))
  refine rNewL ?_ (by simp [sizeLine])
  have F5 := F4.psh (LO [] 0)
  repeat (first | (first | ((with_reducible show wpAny _ _ (execs (Stmt.Assign [Expr.Name _ _] _ _ :: _) _) _ _ _); refine rAs ?_) | with_reducible refine rRet ?_ | with_reducible refine rIf ?_ | with_reducible refine wpAny_BinOp ?_ | with_reducible refine rI ?_ | with_reducible refine rS ?_ | ((with_reducible show wpAny _ _ (eval (Expr.Name _ _) _) _ _ _); refine nL (by assumption) rfl ?_) | ((with_reducible show wpAny _ _ (storeName _ _ _) _ _ _); refine rSt (by assumption) ?_; intro _ _) | ((with_reducible show wpAny _ _ (isTrue (Expr.Compare _ [_] [_] _) _ _) _ _ _); refine wpAny_isTrue_Compare1 ?_) | with_reducible refine wpAny_truthy_bool ?_ | with_reducible refine rEq ?_ | ((with_reducible show wpAny _ _ (eval (Expr.Call _ _ [] _) _) _ _ _); refine Call_ ?_) | ((with_reducible show wpAny _ _ (spliced (backTo _ (starEach (_ :: _) _))) _ _ _); refine spliced_more ?_) | ((with_reducible show wpAny _ _ (spliced (backTo _ (starEach [] _))) _ _ _); refine spliced_none ?_) | with_reducible refine wpAny_IfExp ?_) | (dsimp only; first | ((with_reducible show wpAny _ _ (execs (Stmt.Assign [Expr.Name _ _] _ _ :: _) _) _ _ _); refine rAs ?_) | with_reducible refine rRet ?_ | with_reducible refine rIf ?_ | with_reducible refine wpAny_BinOp ?_ | with_reducible refine rI ?_ | with_reducible refine rS ?_ | ((with_reducible show wpAny _ _ (eval (Expr.Name _ _) _) _ _ _); refine nL (by assumption) rfl ?_) | ((with_reducible show wpAny _ _ (storeName _ _ _) _ _ _); refine rSt (by assumption) ?_; intro _ _) | ((with_reducible show wpAny _ _ (isTrue (Expr.Compare _ [_] [_] _) _ _) _ _ _); refine wpAny_isTrue_Compare1 ?_) | with_reducible refine wpAny_truthy_bool ?_ | with_reducible refine rEq ?_ | ((with_reducible show wpAny _ _ (eval (Expr.Call _ _ [] _) _) _ _ _); refine Call_ ?_) | ((with_reducible show wpAny _ _ (spliced (backTo _ (starEach (_ :: _) _))) _ _ _); refine spliced_more ?_) | ((with_reducible show wpAny _ _ (spliced (backTo _ (starEach [] _))) _ _ _); refine spliced_none ?_) | with_reducible refine wpAny_IfExp ?_))
  refine rSA (es := [aE w "lineno" _ (.int 1 tk1), aE w "instream" _ fp, aE w "whitespace" _ (.str "\n\t\r " _), aE w "pushback" _ (.ref h4.objs.size)]) G F5 1 rfl (F5.kp.kp x _ hx (k.nt hx0) nx) (q_t4 w) (by rfl) (dict_nc rfl) rfl rfl (by simp) ?_
  intro h6 F6
  refine rNil ?_
  have q := fun tks => h _ _ _ _ _ _ _ h6 tks F6.ok F6.kp (F6.at 1 rfl) F4.gsz (F6.at 0 rfl)
  exact q _
end Mine

namespace Mine
abbrev chr (c : Nat) : Str := ⟨#[c]⟩
def CA (vs : List Value) (cs : List Nat) : Prop := vs.length = cs.length ∧ ∀ (i c : Nat), cs[i]? = some c → ∃ t, vs[i]? = some (Value.str (chr c) t)
theorem CA.cons {vs : List Value} {c : Nat} {cs : List Nat} (h : CA vs (c :: cs)) : ∃ t r, vs = Value.str (chr c) t :: r ∧ CA r cs := by
  obtain ⟨t, e⟩ := h.2 0 c rfl
  cases vs with
  | nil => cases e
  | cons v r =>
    cases e
    refine ⟨t, r, rfl, by simpa using h.1, fun i c e => ?_⟩
    have := h.2 (i + 1) c (by simpa using e)
    simpa using this
abbrev strD (w : World) (t1 t2 t3 t4 t5 : Tok) (ln fp ws : Value) (pb : Addr) (rd : Value) : Obj := aD [aE w "lineno" t1 ln, aE w "instream" t2 fp, aE w "whitespace" t3 ws, aE w "pushback" t4 (.ref pb), aE w "read" t5 rd] 5
structure LA where
  (lx ldx pb sx sdx f l c cc : Addr)
  of : Obj
structure NX (w : World) (g0 : Heap) (a : LA) : Prop where
  fn : ∃ fd, a.of.data = .func fd
  call : ∀ {A : Around} {R : Result → Shared → Prop} {hp : Heap} {gn : Array GenState} {dr : Drawn} {tk : Nat} {os : OsState} {vs : List Value} {n : Nat} {sz : Int} {t : Tok}, OK g0 hp → Rm A 2 → hp.get? a.f = some a.of → hp.IsCell a.c (some (.ref a.l)) →
    hp.CodeRec (.ref a.cc) qLL → hp.get? a.l = some (LO vs n) → vs.length ≤ 2 ^ 20 →
    (∀ h' tks v r n', (vs = [] ∧ r = [] ∧ (∃ t, v = .str "" t)) ∨ vs = v :: r → OK g0 h' → Kp [a.l] hp h' → h'.get? a.l = some (LO r n') → R (.ok (.ret v)) ⟨h', gn, dr, tks, os⟩) →
    codeAny (model PP w) A (.call (.ref a.f) ⟨[.int sz t], []⟩) R ⟨hp, gn, dr, tk, os⟩
structure LX (w : World) (g0 h : Heap) (a : LA) (cs : List Nat) : Prop where
  lx : h.get? a.lx = some (instObj aLEX a.ldx)
  ldx : ∃ t1 t2 t3 t4 ln u1 u3, h.get? a.ldx = some (lexD w t1 t2 t3 t4 (.int ln u1) (.ref a.sx) (.str "\n\t\r " u3) a.pb)
  pb : h.get? a.pb = some (LO [] 0)
  sx : h.get? a.sx = some (instObj aLEX a.sdx)
  sdx : ∃ t1 t2 t3 t4 t5 ln fp ws p, h.get? a.sdx = some (strD w t1 t2 t3 t4 t5 ln fp ws p (.ref a.f))
  f : h.get? a.f = some a.of
  nx : NX w g0 a
  c : h.IsCell a.c (some (.ref a.l))
  cc : h.CodeRec (.ref a.cc) qLL
  cct : a.cc ∉ tabs
  l : ∃ vs n, h.get? a.l = some (LO vs n) ∧ CA vs cs
  lpb : @Ne Nat a.l a.pb
  lo : ∀ x ∈ [a.lx, a.ldx, a.pb, a.sx, a.sdx, a.f, a.l, a.c], g0.objs.size ≤ x
section
variable {w : World} {A : Around} {E : Value → Shared → Prop} {Q : Value → Shared → Prop} {t u : Tok} {hp : Heap} {gn : Array GenState} {dr : Drawn} {tk : Nat} {os : OsState} {pos : Pos} {k : Nat} {env : Env}
  {g0 g : Heap} {T : List Addr} {L : Addr} {m : Str → Option Value} {nw : List (Addr × Obj)} {mg mb : Str → Option Value}
theorem rPopM {l : Addr} {vs : List Value} {n : Nat} {pl : Sem Bool} {QM : Value × List Value → Shared → Prop} (e : hp.get? l = some (LO vs n)) (h : QM (.builtin "list.pop", [.ref l]) ⟨hp, gn, dr, tk, os⟩) : wpAny (model PP w) A (getMethod (.ref l) "pop" pl) QM E ⟨hp, gn, dr, tk, os⟩ :=
  getMethod_builtin (T := "list") ⟨_, e, rfl⟩ PySem.F.plainAttrs_list PySem.F.slot_list_pop PySem.F.type_list_pop (fun a e' => by cases e'; exact ⟨_, e, rfl⟩) h
theorem rPop0 (F : FS g0 g T L hp m nw) (i : Nat) {l : Addr} {v : Value} {vs : List Value} {n : Nat} (hi : nw[i]? = some (l, LO (v :: vs) n)) (hs : vs.length ≤ 2 ^ 20)
    (h : ∀ h' n', FS g0 g T L h' m (nw.set i (l, LO vs n')) → Q v ⟨h', gn, dr, tk, os⟩) : wpAny (model PP w) A (call (.builtin "list.pop") [.ref l, .int 0 t]) Q E ⟨hp, gn, dr, tk, os⟩ := by
  refine call_meets PySem.F.slot_list_pop ⟨_, F.at i hi, rfl⟩ PySem.F.entry_list_pop (PySem.F.args_list_pop_2 _ _) (PySem.MeetsSeq.list_pop_at l (v :: vs).toArray n 0 t 0 v (by decide) (by simp [seqIndex?]) (by simp) (by simp [sizeLine]; omega)) ⟨F.at i hi, h _ (n + 1) (F.set' i hi (list_nc rfl) ?_ rfl)⟩
  simp [Obj.mapSeq]
end
end Mine

namespace Mine
section
variable {w : World} {A : Around} {E : Value → Shared → Prop} {Q : Value → Shared → Prop} {t u : Tok} {hp : Heap} {gn : Array GenState} {dr : Drawn} {tk : Nat} {os : OsState} {pos : Pos} {k : Nat} {env : Env}
  {g0 g : Heap} {T : List Addr} {L : Addr} {m : Str → Option Value} {nw : List (Addr × Obj)} {mg mb : Str → Option Value}
theorem rStS {x : Str} {v : Value} {Q : Unit → Shared → Prop} (F : FS g0 g T L hp m nw)
    (h : ∀ h', Heap.SameBut L hp h' → FS g0 g T L h' (fun y => if y = x then some v else m y) nw → Q () ⟨h', gn, dr, tk + 1, os⟩)
    (hL : env.locals = L := by rfl) (hk : env.scope.kind = .function := by rfl) (hx : env.kindOf x = some .local := by rfl) : wpAny (model PP w) A (storeName env x v) Q E ⟨hp, gn, dr, tk, os⟩ := by
  subst hL
  exact wpAny_storeName_local hx F.ns (fun h' n s' => h h' s' (F.sto n s')) (by rw [hk]; rfl)
theorem FS.lo' {h : Heap} (F : FS g0 g [] L h m nw) {p : Addr × Obj} (hp : p ∈ nw) : g.objs.size ≤ p.1 := (F.lo p hp).resolve_right (fun q => nomatch q.1)
theorem q_keep (w : World) : keepIn (KQ w) (.ref aLEX) = true := by kernel_rfl
theorem rCC {e : Expr} {rest : List Expr} (G : Gd w mg mb g0) (k : OK g0 hp) (h : wpAny (model PP w) A (spliced (backTo pos (starEach (e :: rest) env))) (fun vs s₁ => OK g0 s₁.heap ∧ codeAny (model PP w) A (.call (.ref aLEX) ⟨vs, []⟩) (fun r s' => match r with | .ok (.ret v) => Q v s' | .ok _ => False | .error e => E e s') s₁) E ⟨hp, gn, dr, tk, os⟩)
    (he : starEach (e :: rest) env = (false, eval e env) :: starEach rest env := by rfl) (hplain : (backTo pos (starEach rest env)).any (·.1) = false := by rfl) :
    wpAny (model PP w) A (callWith pos (.ref aLEX) [] (backTo pos (starEach (e :: rest) env)) []) Q E ⟨hp, gn, dr, tk, os⟩ :=
  callWith_K (k.Q G) (q_keep w) (wpAny_mono h (fun _ _ z => ⟨z.1.Q G, wpAny_call z.2⟩) fun _ _ z => z) he hplain
theorem FS.call1N {h h' : Heap} (F : FS g0 g T L h m nw) (i : Nat) {a : Addr} {o o' : Obj} (hi : nw[i]? = some (a, o)) (k : OK g0 h') (K : Kp [a] h h') (e : h'.get? a = some o') {b : Addr} {ob : Obj} (eb : h'.get? b = some ob) (hb : h.objs.size ≤ b) :
    FS g0 g T L h' m ((b, ob) :: nw.set i (a, o')) := by
  refine (F.call1 i hi k K e).add eb (Nat.le_trans F.gsz hb) (fun p hp => ?_) (F.fresh hb).2
  have : p.1 ∈ (nw.set i (a, o')).map (·.1) := List.mem_map.mpr ⟨p, hp, rfl⟩
  rw [set_keys hi] at this
  obtain ⟨q, hq, e⟩ := List.mem_map.mp this
  rw [← e]
  exact (F.fresh hb).1 q hq
theorem rListS {x : Str} (hA : A.handled = none) (hsz : x.cps.size ≤ 2 ^ 20) (h : ∀ h' tk vs n, (∀ b o, hp.get? b = some o → h'.get? b = some o) → h'.get? hp.objs.size = some (LO vs n) → CA vs x.cps.toList → Q (.ref hp.objs.size) ⟨h', gn, dr, tk, os⟩) :
    wpAny (model PP w) A (call (.type "list") [.str x t]) Q E ⟨hp, gn, dr, tk, os⟩ := by
  refine call_list_str hA x t (hn := by simp [sizeLine]; omega) fun h' tk acc' c' hk hS' hacc => h h' tk acc'.toList c' hk (by simpa using hS') ⟨by simpa using hacc.1, fun i c e => ?_⟩
  have hi : i < acc'.size := by
    rw [hacc.1]
    have := List.getElem?_eq_some_iff.mp e
    simpa using this.1
  obtain ⟨c2, u, hc, hv⟩ := hacc.2 i acc'[i] (by simp [hi])
  refine ⟨u, ?_⟩
  have : c2 = c := by
    have e2 : x.cps[i]? = some c := by simpa using e
    rw [e2] at hc
    exact (Option.some.inj hc).symm
  subst this
  simp [hi, hv]
theorem rNone (h : Q .none ⟨hp, gn, dr, tk, os⟩) : wpAny (model PP w) A (eval (.Constant .none k pos) env) Q E ⟨hp, gn, dr, tk, os⟩ := fun _ _ _ => h
end
theorem c_lx {w : World} {mg mb : Str → Option Value} {g0 : Heap} (G : Gd w mg mb g0) {A : Around} {R : Result → Shared → Prop} {hp : Heap} {gn : Array GenState} {dr : Drawn} {tk0 : Nat} {os : OsState} (k : OK g0 hp) {x : Str} {t0 : Tok}
  (rm : Rm A 10) (hsz : x.cps.size ≤ 2 ^ 20)
 (h : ∀ a h' tks, OK g0 h' → Kp [] hp h' → LX w g0 h' a x.cps.toList → (∀ b ∈ [a.lx, a.ldx, a.pb, a.sx, a.sdx, a.f, a.l, a.c], hp.objs.size ≤ b) → R (.ok (.ret (.ref a.lx))) ⟨h', gn, dr, tks, os⟩) :
  codeAny (model PP w) A (.call (.ref aLL) ⟨[.str x t0], []⟩) R ⟨hp, gn, dr, tk0, os⟩ := by
  refine entC (T := []) (n := 9) (binds := [("text", .str x t0)]) G k rm (k.at0 G rfl) rfl (k.code G rfl) rfl rfl rfl rfl rfl rfl rfl ?_
  intro h₁ tk₁ F hc rm₁ kk
  generalize hLL : hp.objs.size = L at *
  obtain ⟨o1, e1, d1⟩ := hc "left" (L + 1) rfl
  have F1 := F.add e1 (by (clear hsz; omega)) (by simp) (by (clear hsz hLL; omega))
  repeat (first | (first | ((with_reducible show wpAny _ _ (execs (Stmt.Assign [Expr.Name _ _] _ _ :: _) _) _ _ _); refine rAs ?_) | with_reducible refine rRet ?_ | with_reducible refine rIf ?_ | with_reducible refine wpAny_BinOp ?_ | with_reducible refine rI ?_ | with_reducible refine rS ?_ | ((with_reducible show wpAny _ _ (eval (Expr.Name _ _) _) _ _ _); refine nL (by assumption) rfl ?_) | ((with_reducible show wpAny _ _ (storeName _ _ _) _ _ _); refine rSt (by assumption) ?_; intro _ _) | ((with_reducible show wpAny _ _ (isTrue (Expr.Compare _ [_] [_] _) _ _) _ _ _); refine wpAny_isTrue_Compare1 ?_) | with_reducible refine wpAny_truthy_bool ?_ | with_reducible refine rEq ?_ | ((with_reducible show wpAny _ _ (eval (Expr.Call _ _ [] _) _) _ _ _); refine Call_ ?_) | ((with_reducible show wpAny _ _ (spliced (backTo _ (starEach (_ :: _) _))) _ _ _); refine spliced_more ?_) | ((with_reducible show wpAny _ _ (spliced (backTo _ (starEach [] _))) _ _ _); refine spliced_none ?_) | with_reducible refine wpAny_IfExp ?_) | (dsimp only; first | ((with_reducible show wpAny _ _ (execs (Stmt.Assign [Expr.Name _ _] _ _ :: _) _) _ _ _); refine rAs ?_) | with_reducible refine rRet ?_ | with_reducible refine rIf ?_ | with_reducible refine wpAny_BinOp ?_ | with_reducible refine rI ?_ | with_reducible refine rS ?_ | ((with_reducible show wpAny _ _ (eval (Expr.Name _ _) _) _ _ _); refine nL (by assumption) rfl ?_) | ((with_reducible show wpAny _ _ (storeName _ _ _) _ _ _); refine rSt (by assumption) ?_; intro _ _) | ((with_reducible show wpAny _ _ (isTrue (Expr.Compare _ [_] [_] _) _ _) _ _ _); refine wpAny_isTrue_Compare1 ?_) | with_reducible refine wpAny_truthy_bool ?_ | with_reducible refine rEq ?_ | ((with_reducible show wpAny _ _ (eval (Expr.Call _ _ [] _) _) _ _ _); refine Call_ ?_) | ((with_reducible show wpAny _ _ (spliced (backTo _ (starEach (_ :: _) _))) _ _ _); refine spliced_more ?_) | ((with_reducible show wpAny _ _ (spliced (backTo _ (starEach [] _))) _ _ _); refine spliced_none ?_) | with_reducible refine wpAny_IfExp ?_))
  refine nB G F1 rfl rfl ?_
  refine rCT ?_
  repeat (first | (first | ((with_reducible show wpAny _ _ (execs (Stmt.Assign [Expr.Name _ _] _ _ :: _) _) _ _ _); refine rAs ?_) | with_reducible refine rRet ?_ | with_reducible refine rIf ?_ | with_reducible refine wpAny_BinOp ?_ | with_reducible refine rI ?_ | with_reducible refine rS ?_ | ((with_reducible show wpAny _ _ (eval (Expr.Name _ _) _) _ _ _); refine nL (by assumption) rfl ?_) | ((with_reducible show wpAny _ _ (storeName _ _ _) _ _ _); refine rSt (by assumption) ?_; intro _ _) | ((with_reducible show wpAny _ _ (isTrue (Expr.Compare _ [_] [_] _) _ _) _ _ _); refine wpAny_isTrue_Compare1 ?_) | with_reducible refine wpAny_truthy_bool ?_ | with_reducible refine rEq ?_ | ((with_reducible show wpAny _ _ (eval (Expr.Call _ _ [] _) _) _ _ _); refine Call_ ?_) | ((with_reducible show wpAny _ _ (spliced (backTo _ (starEach (_ :: _) _))) _ _ _); refine spliced_more ?_) | ((with_reducible show wpAny _ _ (spliced (backTo _ (starEach [] _))) _ _ _); refine spliced_none ?_) | with_reducible refine wpAny_IfExp ?_) | (dsimp only; first | ((with_reducible show wpAny _ _ (execs (Stmt.Assign [Expr.Name _ _] _ _ :: _) _) _ _ _); refine rAs ?_) | with_reducible refine rRet ?_ | with_reducible refine rIf ?_ | with_reducible refine wpAny_BinOp ?_ | with_reducible refine rI ?_ | with_reducible refine rS ?_ | ((with_reducible show wpAny _ _ (eval (Expr.Name _ _) _) _ _ _); refine nL (by assumption) rfl ?_) | ((with_reducible show wpAny _ _ (storeName _ _ _) _ _ _); refine rSt (by assumption) ?_; intro _ _) | ((with_reducible show wpAny _ _ (isTrue (Expr.Compare _ [_] [_] _) _ _) _ _ _); refine wpAny_isTrue_Compare1 ?_) | with_reducible refine wpAny_truthy_bool ?_ | with_reducible refine rEq ?_ | ((with_reducible show wpAny _ _ (eval (Expr.Call _ _ [] _) _) _ _ _); refine Call_ ?_) | ((with_reducible show wpAny _ _ (spliced (backTo _ (starEach (_ :: _) _))) _ _ _); refine spliced_more ?_) | ((with_reducible show wpAny _ _ (spliced (backTo _ (starEach [] _))) _ _ _); refine spliced_none ?_) | with_reducible refine wpAny_IfExp ?_))
  refine rListS rm₁.hd hsz ?_
  intro h2 tk2 vs n K2 e2 cav
  have F2 := (F1.extX K2).add e2 F1.gsz (F1.fresh (Nat.le_refl _)).1 (F1.fresh (Nat.le_refl _)).2
  generalize hl : h₁.objs.size = l at *
  refine rSC F2 1 rfl rfl d1 ?_
  intro h3 o3 d3 S3 F3
  repeat (first | (first | ((with_reducible show wpAny _ _ (execs (Stmt.Assign [Expr.Name _ _] _ _ :: _) _) _ _ _); refine rAs ?_) | with_reducible refine rRet ?_ | with_reducible refine rIf ?_ | with_reducible refine wpAny_BinOp ?_ | with_reducible refine rI ?_ | with_reducible refine rS ?_ | ((with_reducible show wpAny _ _ (eval (Expr.Name _ _) _) _ _ _); refine nL (by assumption) rfl ?_) | ((with_reducible show wpAny _ _ (storeName _ _ _) _ _ _); refine rSt (by assumption) ?_; intro _ _) | ((with_reducible show wpAny _ _ (isTrue (Expr.Compare _ [_] [_] _) _ _) _ _ _); refine wpAny_isTrue_Compare1 ?_) | with_reducible refine wpAny_truthy_bool ?_ | with_reducible refine rEq ?_ | ((with_reducible show wpAny _ _ (eval (Expr.Call _ _ [] _) _) _ _ _); refine Call_ ?_) | ((with_reducible show wpAny _ _ (spliced (backTo _ (starEach (_ :: _) _))) _ _ _); refine spliced_more ?_) | ((with_reducible show wpAny _ _ (spliced (backTo _ (starEach [] _))) _ _ _); refine spliced_none ?_) | with_reducible refine wpAny_IfExp ?_) | (dsimp only; first | ((with_reducible show wpAny _ _ (execs (Stmt.Assign [Expr.Name _ _] _ _ :: _) _) _ _ _); refine rAs ?_) | with_reducible refine rRet ?_ | with_reducible refine rIf ?_ | with_reducible refine wpAny_BinOp ?_ | with_reducible refine rI ?_ | with_reducible refine rS ?_ | ((with_reducible show wpAny _ _ (eval (Expr.Name _ _) _) _ _ _); refine nL (by assumption) rfl ?_) | ((with_reducible show wpAny _ _ (storeName _ _ _) _ _ _); refine rSt (by assumption) ?_; intro _ _) | ((with_reducible show wpAny _ _ (isTrue (Expr.Compare _ [_] [_] _) _ _) _ _ _); refine wpAny_isTrue_Compare1 ?_) | with_reducible refine wpAny_truthy_bool ?_ | with_reducible refine rEq ?_ | ((with_reducible show wpAny _ _ (eval (Expr.Call _ _ [] _) _) _ _ _); refine Call_ ?_) | ((with_reducible show wpAny _ _ (spliced (backTo _ (starEach (_ :: _) _))) _ _ _); refine spliced_more ?_) | ((with_reducible show wpAny _ _ (spliced (backTo _ (starEach [] _))) _ _ _); refine spliced_none ?_) | with_reducible refine wpAny_IfExp ?_))
  refine nG G F3 rfl ?_
  refine rCC G F3.ok ?_
  refine spliced_more ?_
  refine rNone ?_
  refine spliced_none ?_
  refine ⟨F3.ok, ?_⟩
  refine rNewI G F3.ok ?_
  have F4 := (F3.psh emptyDict).psh (instObj aLEX h3.objs.size)
  rw [Heap.size_push] at F4
  generalize hsdx : h3.objs.size = sdx at *
  refine c_init G F4.ok (x := sdx + 1) (dx := sdx) (rm₁.le (by decide)).under (F4.at 0 rfl) (F4.at 1 rfl) (F4.lo0 (.head _)) (F4.lo0 (.tail _ (.head _))) (by (clear hsz hLL hl hsdx; omega)) ?_
  intro t1 t2 t3 t4 u1 u3 pb h5 tk5 k5 K5 e5 hpb epb
  refine ⟨rfl, ?_⟩
  have F5 := F4.call1N 1 rfl k5 K5 e5 epb hpb
  dsimp only
  refine rSt F5 ?_
  intro h6 F6
  refine rDef rfl rfl rfl ?_
  refine rFn G F6.ok (.inr (.inr ⟨rfl, rfl, rfl⟩)) rfl G.h3 (by decide) rfl rfl rfl ?_
  intro f doc pm cc ctv h7 tk7 k7 K7 hf hct hcr hfo
  have F7 := (F6.call k7 K7).add hfo (Nat.le_trans F6.gsz hf) (F6.fresh hf).1 (F6.fresh hf).2
  refine rStS F7 ?_
  intro h8 S8 F8
  have hcr8 : h8.CodeRec (.ref cc) qLL := CodeRec.same hcr (by decide) S8 (ns_nc F7.ns)
  refine rAsA ?_
  refine nL F8 rfl ?_
  refine nL F8 rfl ?_
  refine rSAS (es := [aE w "lineno" t1 (.int 1 u1), aE w "instream" t2 .none, aE w "whitespace" t3 (.str "\n\t\r " u3), aE w "pushback" t4 (.ref pb), aE w "read" _ (.ref f)]) G F8 3 rfl (F8.at 2 rfl) (q_t5 w) (by rfl) (dict_nc rfl) rfl rfl (by simp) ?_
  intro h9 S9 F9
  have hcr9 : h9.CodeRec (.ref cc) qLL := CodeRec.same hcr8 (by decide) S9 (fun o e => by rw [F8.at 3 rfl] at e; cases e; exact dict_nc rfl)
  repeat (first | (first | ((with_reducible show wpAny _ _ (execs (Stmt.Assign [Expr.Name _ _] _ _ :: _) _) _ _ _); refine rAs ?_) | with_reducible refine rRet ?_ | with_reducible refine rIf ?_ | with_reducible refine wpAny_BinOp ?_ | with_reducible refine rI ?_ | with_reducible refine rS ?_ | ((with_reducible show wpAny _ _ (eval (Expr.Name _ _) _) _ _ _); refine nL (by assumption) rfl ?_) | ((with_reducible show wpAny _ _ (storeName _ _ _) _ _ _); refine rSt (by assumption) ?_; intro _ _) | ((with_reducible show wpAny _ _ (isTrue (Expr.Compare _ [_] [_] _) _ _) _ _ _); refine wpAny_isTrue_Compare1 ?_) | with_reducible refine wpAny_truthy_bool ?_ | with_reducible refine rEq ?_ | ((with_reducible show wpAny _ _ (eval (Expr.Call _ _ [] _) _) _ _ _); refine Call_ ?_) | ((with_reducible show wpAny _ _ (spliced (backTo _ (starEach (_ :: _) _))) _ _ _); refine spliced_more ?_) | ((with_reducible show wpAny _ _ (spliced (backTo _ (starEach [] _))) _ _ _); refine spliced_none ?_) | with_reducible refine wpAny_IfExp ?_) | (dsimp only; first | ((with_reducible show wpAny _ _ (execs (Stmt.Assign [Expr.Name _ _] _ _ :: _) _) _ _ _); refine rAs ?_) | with_reducible refine rRet ?_ | with_reducible refine rIf ?_ | with_reducible refine wpAny_BinOp ?_ | with_reducible refine rI ?_ | with_reducible refine rS ?_ | ((with_reducible show wpAny _ _ (eval (Expr.Name _ _) _) _ _ _); refine nL (by assumption) rfl ?_) | ((with_reducible show wpAny _ _ (storeName _ _ _) _ _ _); refine rSt (by assumption) ?_; intro _ _) | ((with_reducible show wpAny _ _ (isTrue (Expr.Compare _ [_] [_] _) _ _) _ _ _); refine wpAny_isTrue_Compare1 ?_) | with_reducible refine wpAny_truthy_bool ?_ | with_reducible refine rEq ?_ | ((with_reducible show wpAny _ _ (eval (Expr.Call _ _ [] _) _) _ _ _); refine Call_ ?_) | ((with_reducible show wpAny _ _ (spliced (backTo _ (starEach (_ :: _) _))) _ _ _); refine spliced_more ?_) | ((with_reducible show wpAny _ _ (spliced (backTo _ (starEach [] _))) _ _ _); refine spliced_none ?_) | with_reducible refine wpAny_IfExp ?_))
  refine nG G F9 rfl ?_
  refine rCC G F9.ok ?_
  refine spliced_more ?_
  refine nL F9 rfl ?_
  refine spliced_none ?_
  refine ⟨F9.ok, ?_⟩
  refine rNewI G F9.ok ?_
  have F10 := (F9.psh emptyDict).psh (instObj aLEX h9.objs.size)
  rw [Heap.size_push] at F10
  generalize hldx : h9.objs.size = ldx at *
  refine c_init G F10.ok (x := ldx + 1) (dx := ldx) (rm₁.le (by decide)).under (F10.at 0 rfl) (F10.at 1 rfl) (F10.lo0 (.head _)) (F10.lo0 (.tail _ (.head _))) (by (clear hsz hLL hl hsdx hpb hf hct hldx; omega)) ?_
  intro v1 v2 v3 v4 w1 w3 pb2 h11 tk11 k11 K11 e11 hpb2 epb2
  have F11 := F10.call1N 1 rfl k11 K11 e11 epb2 hpb2
  refine ⟨rfl, ?_⟩
  dsimp only
  have hcr10 : ((h9.push emptyDict).push (instObj aLEX ldx)).CodeRec (.ref cc) qLL := hcr9.keeps fun b o e => Heap.get?_push_of_some _ (Heap.get?_push_of_some _ e)
  have hcr11 : h11.CodeRec (.ref cc) qLL := K11.codeRec hcr10 hct (fun q => CodeRec.ne (by decide) hcr10 (F10.at 1 rfl) (dict_nc rfl) (List.mem_singleton.mp q))
  have lol : g0.objs.size ≤ l := F11.lo0 (p := (l, LO vs n)) (by simp)
  refine h ⟨ldx + 1, ldx, pb2, sdx + 1, sdx, f, l, L + 1, cc, _⟩ h11 tk11 k11 F11.kp ⟨F11.at 1 rfl, ⟨_, _, _, _, _, _, _, F11.at 2 rfl⟩, F11.at 0 rfl, F11.at 5 rfl, ⟨_, _, _, _, _, _, _, _, _, F11.at 6 rfl⟩, F11.at 3 rfl, ⟨⟨_, rfl⟩, ?_⟩, ⟨_, F11.at 8 rfl, d3⟩, ?_, hct, ⟨vs, n, F11.at 7 rfl, cav⟩, ?_, ?_⟩ ?_
  · intro A' R' hp' gn' dr' tk' os' vs' n' sz t' k' rm' ef ec ecd el hvs hR
    refine ent (T := [l]) (n := 1) (binds := [("size", .int sz t')]) G k' rm' ef rfl ecd rfl rfl rfl rfl rfl rfl rfl ?_
    intro i1 tki J rmi kki
    have J1 := J.addT (kki _ _ el) (List.mem_singleton.mpr rfl) lol (fun _ q => (nomatch q)) (Nat.ne_of_lt (Heap.lt_size el))
    have ci : i1.IsCell (L + 1) (some (.ref l)) := by
      obtain ⟨oc, eoc, doc⟩ := ec
      exact ⟨oc, kki _ _ eoc, doc⟩
    repeat (first | (first | ((with_reducible show wpAny _ _ (execs (Stmt.Assign [Expr.Name _ _] _ _ :: _) _) _ _ _); refine rAs ?_) | with_reducible refine rRet ?_ | with_reducible refine rIf ?_ | with_reducible refine wpAny_BinOp ?_ | with_reducible refine rI ?_ | with_reducible refine rS ?_ | ((with_reducible show wpAny _ _ (eval (Expr.Name _ _) _) _ _ _); refine nL (by assumption) rfl ?_) | ((with_reducible show wpAny _ _ (storeName _ _ _) _ _ _); refine rSt (by assumption) ?_; intro _ _) | ((with_reducible show wpAny _ _ (isTrue (Expr.Compare _ [_] [_] _) _ _) _ _ _); refine wpAny_isTrue_Compare1 ?_) | with_reducible refine wpAny_truthy_bool ?_ | with_reducible refine rEq ?_ | ((with_reducible show wpAny _ _ (eval (Expr.Call _ _ [] _) _) _ _ _); refine Call_ ?_) | ((with_reducible show wpAny _ _ (spliced (backTo _ (starEach (_ :: _) _))) _ _ _); refine spliced_more ?_) | ((with_reducible show wpAny _ _ (spliced (backTo _ (starEach [] _))) _ _ _); refine spliced_none ?_) | with_reducible refine wpAny_IfExp ?_) | (dsimp only; first | ((with_reducible show wpAny _ _ (execs (Stmt.Assign [Expr.Name _ _] _ _ :: _) _) _ _ _); refine rAs ?_) | with_reducible refine rRet ?_ | with_reducible refine rIf ?_ | with_reducible refine wpAny_BinOp ?_ | with_reducible refine rI ?_ | with_reducible refine rS ?_ | ((with_reducible show wpAny _ _ (eval (Expr.Name _ _) _) _ _ _); refine nL (by assumption) rfl ?_) | ((with_reducible show wpAny _ _ (storeName _ _ _) _ _ _); refine rSt (by assumption) ?_; intro _ _) | ((with_reducible show wpAny _ _ (isTrue (Expr.Compare _ [_] [_] _) _ _) _ _ _); refine wpAny_isTrue_Compare1 ?_) | with_reducible refine wpAny_truthy_bool ?_ | with_reducible refine rEq ?_ | ((with_reducible show wpAny _ _ (eval (Expr.Call _ _ [] _) _) _ _ _); refine Call_ ?_) | ((with_reducible show wpAny _ _ (spliced (backTo _ (starEach (_ :: _) _))) _ _ _); refine spliced_more ?_) | ((with_reducible show wpAny _ _ (spliced (backTo _ (starEach [] _))) _ _ _); refine spliced_none ?_) | with_reducible refine wpAny_IfExp ?_))
    refine isTrue_plain ?_
    refine nF rfl ci ?_
    refine wpAny_truthy_list (LO.is (J1.at 0 rfl)) (by simp; (clear hsz hLL hl hsdx hpb hf hct hldx hpb2 lol; omega)) ?_
    cases vs' with
    | nil =>
      refine iteF (by simp) ?_
      repeat (first | (first | ((with_reducible show wpAny _ _ (execs (Stmt.Assign [Expr.Name _ _] _ _ :: _) _) _ _ _); refine rAs ?_) | with_reducible refine rRet ?_ | with_reducible refine rIf ?_ | with_reducible refine wpAny_BinOp ?_ | with_reducible refine rI ?_ | with_reducible refine rS ?_ | ((with_reducible show wpAny _ _ (eval (Expr.Name _ _) _) _ _ _); refine nL (by assumption) rfl ?_) | ((with_reducible show wpAny _ _ (storeName _ _ _) _ _ _); refine rSt (by assumption) ?_; intro _ _) | ((with_reducible show wpAny _ _ (isTrue (Expr.Compare _ [_] [_] _) _ _) _ _ _); refine wpAny_isTrue_Compare1 ?_) | with_reducible refine wpAny_truthy_bool ?_ | with_reducible refine rEq ?_ | ((with_reducible show wpAny _ _ (eval (Expr.Call _ _ [] _) _) _ _ _); refine Call_ ?_) | ((with_reducible show wpAny _ _ (spliced (backTo _ (starEach (_ :: _) _))) _ _ _); refine spliced_more ?_) | ((with_reducible show wpAny _ _ (spliced (backTo _ (starEach [] _))) _ _ _); refine spliced_none ?_) | with_reducible refine wpAny_IfExp ?_) | (dsimp only; first | ((with_reducible show wpAny _ _ (execs (Stmt.Assign [Expr.Name _ _] _ _ :: _) _) _ _ _); refine rAs ?_) | with_reducible refine rRet ?_ | with_reducible refine rIf ?_ | with_reducible refine wpAny_BinOp ?_ | with_reducible refine rI ?_ | with_reducible refine rS ?_ | ((with_reducible show wpAny _ _ (eval (Expr.Name _ _) _) _ _ _); refine nL (by assumption) rfl ?_) | ((with_reducible show wpAny _ _ (storeName _ _ _) _ _ _); refine rSt (by assumption) ?_; intro _ _) | ((with_reducible show wpAny _ _ (isTrue (Expr.Compare _ [_] [_] _) _ _) _ _ _); refine wpAny_isTrue_Compare1 ?_) | with_reducible refine wpAny_truthy_bool ?_ | with_reducible refine rEq ?_ | ((with_reducible show wpAny _ _ (eval (Expr.Call _ _ [] _) _) _ _ _); refine Call_ ?_) | ((with_reducible show wpAny _ _ (spliced (backTo _ (starEach (_ :: _) _))) _ _ _); refine spliced_more ?_) | ((with_reducible show wpAny _ _ (spliced (backTo _ (starEach [] _))) _ _ _); refine spliced_none ?_) | with_reducible refine wpAny_IfExp ?_))
      have q := fun t tks => hR i1 tks (.str "" t) [] n' (.inl ⟨rfl, rfl, _, rfl⟩) J1.ok J1.kp (J1.at 0 rfl)
      exact q _ _
    | cons v r =>
      refine iteT (by simp) ?_
      refine rM ?_
      refine nF rfl ci ?_
      refine rPopM (J1.at 0 rfl) ?_
      refine rCM ?_
      repeat (first | (first | ((with_reducible show wpAny _ _ (execs (Stmt.Assign [Expr.Name _ _] _ _ :: _) _) _ _ _); refine rAs ?_) | with_reducible refine rRet ?_ | with_reducible refine rIf ?_ | with_reducible refine wpAny_BinOp ?_ | with_reducible refine rI ?_ | with_reducible refine rS ?_ | ((with_reducible show wpAny _ _ (eval (Expr.Name _ _) _) _ _ _); refine nL (by assumption) rfl ?_) | ((with_reducible show wpAny _ _ (storeName _ _ _) _ _ _); refine rSt (by assumption) ?_; intro _ _) | ((with_reducible show wpAny _ _ (isTrue (Expr.Compare _ [_] [_] _) _ _) _ _ _); refine wpAny_isTrue_Compare1 ?_) | with_reducible refine wpAny_truthy_bool ?_ | with_reducible refine rEq ?_ | ((with_reducible show wpAny _ _ (eval (Expr.Call _ _ [] _) _) _ _ _); refine Call_ ?_) | ((with_reducible show wpAny _ _ (spliced (backTo _ (starEach (_ :: _) _))) _ _ _); refine spliced_more ?_) | ((with_reducible show wpAny _ _ (spliced (backTo _ (starEach [] _))) _ _ _); refine spliced_none ?_) | with_reducible refine wpAny_IfExp ?_) | (dsimp only; first | ((with_reducible show wpAny _ _ (execs (Stmt.Assign [Expr.Name _ _] _ _ :: _) _) _ _ _); refine rAs ?_) | with_reducible refine rRet ?_ | with_reducible refine rIf ?_ | with_reducible refine wpAny_BinOp ?_ | with_reducible refine rI ?_ | with_reducible refine rS ?_ | ((with_reducible show wpAny _ _ (eval (Expr.Name _ _) _) _ _ _); refine nL (by assumption) rfl ?_) | ((with_reducible show wpAny _ _ (storeName _ _ _) _ _ _); refine rSt (by assumption) ?_; intro _ _) | ((with_reducible show wpAny _ _ (isTrue (Expr.Compare _ [_] [_] _) _ _) _ _ _); refine wpAny_isTrue_Compare1 ?_) | with_reducible refine wpAny_truthy_bool ?_ | with_reducible refine rEq ?_ | ((with_reducible show wpAny _ _ (eval (Expr.Call _ _ [] _) _) _ _ _); refine Call_ ?_) | ((with_reducible show wpAny _ _ (spliced (backTo _ (starEach (_ :: _) _))) _ _ _); refine spliced_more ?_) | ((with_reducible show wpAny _ _ (spliced (backTo _ (starEach [] _))) _ _ _); refine spliced_none ?_) | with_reducible refine wpAny_IfExp ?_))
      refine rPop0 J1 0 rfl (by simp at hvs; (clear hsz hLL hl hsdx hpb hf hct hldx hpb2 lol; omega)) ?_
      intro i2 n2 J2
      have q := fun tks => hR i2 tks v r n2 (.inr rfl) J2.ok J2.kp (J2.at 0 rfl)
      exact q _
  · exact hcr11
  · intro z
    have e1 : l < h9.objs.size := Heap.lt_size (F9.at 4 rfl)
    have e2 : h9.objs.size + 1 + 1 ≤ pb2 := by
      have := hpb2
      rw [Heap.size_push, Heap.size_push] at this
      exact this
    have z' : @Eq Nat l pb2 := z
    (clear hsz hLL hl hsdx hpb hf hct hpb2 lol z; omega)
  · intro b hb
    simp only [List.mem_cons, List.not_mem_nil, or_false] at hb
    rcases hb with rfl | rfl | rfl | rfl | rfl | rfl | rfl | rfl
    · exact F11.lo0 (List.mem_of_getElem? (i := 1) rfl)
    · exact F11.lo0 (List.mem_of_getElem? (i := 2) rfl)
    · exact F11.lo0 (List.mem_of_getElem? (i := 0) rfl)
    · exact F11.lo0 (List.mem_of_getElem? (i := 5) rfl)
    · exact F11.lo0 (List.mem_of_getElem? (i := 6) rfl)
    · exact F11.lo0 (List.mem_of_getElem? (i := 3) rfl)
    · exact F11.lo0 (List.mem_of_getElem? (i := 7) rfl)
    · exact F11.lo0 (List.mem_of_getElem? (i := 8) rfl)
  · intro b hb
    simp only [List.mem_cons, List.not_mem_nil, or_false] at hb
    rcases hb with rfl | rfl | rfl | rfl | rfl | rfl | rfl | rfl
    · exact hLL ▸ F11.lo' (List.mem_of_getElem? (i := 1) rfl)
    · exact hLL ▸ F11.lo' (List.mem_of_getElem? (i := 2) rfl)
    · exact hLL ▸ F11.lo' (List.mem_of_getElem? (i := 0) rfl)
    · exact hLL ▸ F11.lo' (List.mem_of_getElem? (i := 5) rfl)
    · exact hLL ▸ F11.lo' (List.mem_of_getElem? (i := 6) rfl)
    · exact hLL ▸ F11.lo' (List.mem_of_getElem? (i := 3) rfl)
    · exact hLL ▸ F11.lo' (List.mem_of_getElem? (i := 7) rfl)
    · exact hLL ▸ F11.lo' (List.mem_of_getElem? (i := 8) rfl)
end Mine

namespace Mine
theorem get_ne {h : Heap} {a b : Addr} {o o' : Obj} (e : h.get? a = some o) (e' : h.get? b = some o') (hd : o.data ≠ o'.data) : a ≠ b := fun q => by
  subst q
  rw [e] at e'
  cases e'
  exact hd rfl
theorem mem2 {a b c : Addr} (h1 : a ≠ b) (h2 : a ≠ c) : a ∉ [b, c] := fun q => by
  rcases List.mem_cons.mp q with q | q
  · exact h1 q
  · exact h2 (List.mem_singleton.mp q)
theorem LX.step {w : World} {g0 hp h' : Heap} {a : LA} {cs cs' : List Nat} (X : LX w g0 hp a cs) (k : OK g0 hp) (K : Kp [a.ldx, a.l] hp h')
    (e1 : ∃ t1 t2 t3 t4 ln u1 u3, h'.get? a.ldx = some (lexD w t1 t2 t3 t4 (.int ln u1) (.ref a.sx) (.str "\n\t\r " u3) a.pb)) (e2 : ∃ vs n, h'.get? a.l = some (LO vs n) ∧ CA vs cs') : LX w g0 h' a cs' := by
  obtain ⟨_, _, _, _, _, _, _, ed⟩ := X.ldx
  obtain ⟨vs0, n0, el, _⟩ := X.l
  obtain ⟨s1, s2, s3, s4, s5, sl, sf, sw, sp, es⟩ := X.sdx
  obtain ⟨oc, ec, dc⟩ := X.c
  obtain ⟨cc', occ, vcc, tcc, ecc, hcc, dcc, r⟩ := X.cc
  cases ecc
  have nt : ∀ x ∈ [a.lx, a.ldx, a.pb, a.sx, a.sdx, a.f, a.l, a.c], x ∉ tabs := fun x hx => k.nt (X.lo x hx)
  obtain ⟨fd, hfd⟩ := X.nx.fn
  refine ⟨K.kp _ _ X.lx (nt _ (by simp)) (mem2 (get_ne X.lx ed (by simp)) (get_ne X.lx el (by simp))), e1,
    K.kp _ _ X.pb (nt _ (by simp)) (mem2 (get_ne X.pb ed (by simp)) (Ne.symm X.lpb)),
    K.kp _ _ X.sx (nt _ (by simp)) (mem2 (get_ne X.sx ed (by simp)) (get_ne X.sx el (by simp))),
    ⟨s1, s2, s3, s4, s5, sl, sf, sw, sp, K.kp _ _ es (nt _ (by simp)) (mem2 (get_ne es ed (by intro z; cases z)) (get_ne es el (by simp)))⟩,
    K.kp _ _ X.f (nt _ (by simp)) (mem2 (get_ne X.f ed (by rw [hfd]; simp)) (get_ne X.f el (by rw [hfd]; simp))), X.nx,
    ⟨oc, K.kp _ _ ec (nt _ (by simp)) (mem2 (get_ne ec ed (by rw [dc]; simp)) (get_ne ec el (by rw [dc]; simp))), dc⟩,
    ⟨_, occ, vcc, tcc, rfl, K.kp _ _ hcc X.cct (mem2 (get_ne hcc ed (by rw [dcc]; simp)) (get_ne hcc el (by rw [dcc]; simp))), dcc, r⟩,
    X.cct, e2, X.lpb, X.lo⟩
theorem LX.keep {w : World} {g0 hp h' : Heap} {a : LA} {cs : List Nat} (X : LX w g0 hp a cs) (k : OK g0 hp) (K : Kp [] hp h') : LX w g0 h' a cs := by
  have nt : ∀ x ∈ [a.lx, a.ldx, a.pb, a.sx, a.sdx, a.f, a.l, a.c], x ∉ tabs := fun x hx => k.nt (X.lo x hx)
  refine X.step k (K.weak (fun _ q => (nomatch q))) ?_ ?_
  · obtain ⟨t1, t2, t3, t4, ln, u1, u3, e⟩ := X.ldx
    exact ⟨t1, t2, t3, t4, ln, u1, u3, K.kp _ _ e (nt _ (by simp)) List.not_mem_nil⟩
  · obtain ⟨vs, n, e, c⟩ := X.l
    exact ⟨vs, n, K.kp _ _ e (nt _ (by simp)) List.not_mem_nil, c⟩
end Mine

namespace Mine
theorem fo_ins (w : World) (t1 t2 t3 t4 : Tok) (ln ws fp : Value) (pb : Addr) : findObj (KQ w) aLEX (some (lexD w t1 t2 t3 t4 ln fp ws pb)) "instream" = some (.value fp) := by kernel_rfl
theorem fo_ln (w : World) (t1 t2 t3 t4 : Tok) (ln ws fp : Value) (pb : Addr) : findObj (KQ w) aLEX (some (lexD w t1 t2 t3 t4 ln fp ws pb)) "lineno" = some (.value ln) := by kernel_rfl
theorem fo_ws (w : World) (t1 t2 t3 t4 : Tok) (ln ws fp : Value) (pb : Addr) : findObj (KQ w) aLEX (some (lexD w t1 t2 t3 t4 ln fp ws pb)) "whitespace" = some (.value ws) := by kernel_rfl
theorem fo_pb (w : World) (t1 t2 t3 t4 : Tok) (ln ws fp : Value) (pb : Addr) : findObj (KQ w) aLEX (some (lexD w t1 t2 t3 t4 ln fp ws pb)) "pushback" = some (.value (.ref pb)) := by kernel_rfl
theorem fo_rd (w : World) (t1 t2 t3 t4 t5 : Tok) (ln ws fp rd : Value) (pb : Addr) : findObj (KQ w) aLEX (some (strD w t1 t2 t3 t4 t5 ln fp ws pb rd)) "read" = some (.value rd) := by kernel_rfl
theorem fo_rc (w : World) (t1 t2 t3 t4 : Tok) (ln ws fp : Value) (pb : Addr) : findObj (KQ w) aLEX (some (lexD w t1 t2 t3 t4 ln fp ws pb)) "_read_char" = some (.bind (.builtin "function.__get__") (.ref aRC)) := by kernel_rfl
theorem sh_gt (w : World) (t1 t2 t3 t4 : Tok) (ln ws fp : Value) (pb : Addr) : shadowIn (some (lexD w t1 t2 t3 t4 ln fp ws pb)) "get_token" = some false := by kernel_rfl
section
variable {w : World} {A : Around} {E : Value → Shared → Prop} {Q : Value → Shared → Prop} {t u : Tok} {hp : Heap} {gn : Array GenState} {dr : Drawn} {tk : Nat} {os : OsState} {pos : Pos} {k : Nat} {env : Env}
  {g0 g : Heap} {T : List Addr} {L : Addr} {m : Str → Option Value} {nw : List (Addr × Obj)} {mg mb : Str → Option Value}
theorem rAt {x attr : Str} {xp pos : Pos}
    (h : wpAny (model PP w) A (eval (.Name x xp) env) (fun o s₁ => wpAny (model PP w) A (getAttr o attr true) Q E s₁) E ⟨hp, gn, dr, tk, os⟩) : wpAny (model PP w) A (eval (.Attribute (.Name x xp) attr pos) env) Q E ⟨hp, gn, dr, tk, os⟩ := Attribute_name h
theorem rEqS {a b : Str} (h : Q (.bool (a == b)) ⟨hp, gn, dr, tk, os⟩) : wpAny (model PP w) A (compareOp .Eq (.str a t) (.str b u)) Q E ⟨hp, gn, dr, tk, os⟩ := PyProof.Rows.eq_str h
theorem rAuA {o value : Expr} {attr : Str} {tpos pos : Pos} {op : Operator} {rest : List Stmt} {Q : Flow → Shared → Prop}
    (h : wpAny (model PP w) A (eval o env) (fun ov s₁ => wpAny (model PP w) A (getAttr ov attr true) (fun old s₂ =>
          wpAny (model PP w) A (eval value env) (fun v s₃ => wpAny (model PP w) A (inplaceOp op old v) (fun new s₄ =>
            wpAny (model PP w) A (setAttr ov attr new) (fun _ s₅ => wpAny (model PP w) A (execs rest env) Q E s₅) E s₄) E s₃) E s₂) E s₁) E ⟨hp, gn, dr, tk, os⟩) :
    wpAny (model PP w) A (execs (.AugAssign (.Attribute o attr tpos) op value pos :: rest) env) Q E ⟨hp, gn, dr, tk, os⟩ := wpAny_execs_cons (wpAny_AugAssign_AttributeAny h)
theorem rIAdd {a b : Int} (h : Q (.int (a + b) tk) ⟨hp, gn, dr, tk + 1, os⟩) : wpAny (model PP w) A (inplaceOp .Add (.int a t) (.int b u)) Q E ⟨hp, gn, dr, tk, os⟩ := by
  first | exact iadd_int h | exact PyProof.Rows.iadd_int h
end
def Take (cs : List Nat) (v : Value) (cs' : List Nat) : Prop := (cs = [] ∧ cs' = [] ∧ ∃ t, v = .str "" t) ∨ (∃ c t, cs = c :: cs' ∧ v = .str (chr c) t)
theorem c_rc {w : World} {mg mb : Str → Option Value} {g0 : Heap} (G : Gd w mg mb g0) {A : Around} {R : Result → Shared → Prop} {hp : Heap} {gn : Array GenState} {dr : Drawn} {tk0 : Nat} {os : OsState} (k : OK g0 hp) {a : LA} {cs : List Nat}
  (rm : Rm A 5) (X : LX w g0 hp a cs) (hlen : cs.length ≤ 2 ^ 20)
 (h : ∀ v cs' h' tks, Take cs v cs' → OK g0 h' → Kp [a.ldx, a.l] hp h' → LX w g0 h' a cs' → R (.ok (.ret v)) ⟨h', gn, dr, tks, os⟩) :
  codeAny (model PP w) A (.call (.ref aRC) ⟨[.ref a.lx], []⟩) R ⟨hp, gn, dr, tk0, os⟩ := by
  refine ent (T := [a.ldx, a.l]) (n := 4) (binds := [("self", .ref a.lx)]) G k rm (k.at0 G rfl) rfl (k.code G rfl) rfl rfl rfl rfl rfl rfl rfl ?_
  intro h1 tk1 F rm1 kk
  have X1 : LX w g0 h1 a cs := X.keep k ⟨F.gsz, fun b o e _ _ => kk b o e⟩
  obtain ⟨t1, t2, t3, t4, ln, u1, u3, ed⟩ := X1.ldx
  obtain ⟨s1, s2, s3, s4, s5, sl, sf, sw, sp, es⟩ := X1.sdx
  obtain ⟨vs, n, el, ca⟩ := X1.l
  obtain ⟨fd, hfd⟩ := X1.nx.fn
  repeat (first | (first | ((with_reducible show wpAny _ _ (execs (Stmt.Assign [Expr.Name _ _] _ _ :: _) _) _ _ _); refine rAs ?_) | with_reducible refine rRet ?_ | with_reducible refine rIf ?_ | with_reducible refine wpAny_BinOp ?_ | with_reducible refine rI ?_ | with_reducible refine rS ?_ | ((with_reducible show wpAny _ _ (eval (Expr.Name _ _) _) _ _ _); refine nL (by assumption) rfl ?_) | ((with_reducible show wpAny _ _ (storeName _ _ _) _ _ _); refine rSt (by assumption) ?_; intro _ _) | ((with_reducible show wpAny _ _ (isTrue (Expr.Compare _ [_] [_] _) _ _) _ _ _); refine wpAny_isTrue_Compare1 ?_) | with_reducible refine wpAny_truthy_bool ?_ | with_reducible refine rEq ?_ | ((with_reducible show wpAny _ _ (eval (Expr.Call _ _ [] _) _) _ _ _); refine Call_ ?_) | ((with_reducible show wpAny _ _ (spliced (backTo _ (starEach (_ :: _) _))) _ _ _); refine spliced_more ?_) | ((with_reducible show wpAny _ _ (spliced (backTo _ (starEach [] _))) _ _ _); refine spliced_none ?_) | with_reducible refine wpAny_IfExp ?_) | (dsimp only; first | ((with_reducible show wpAny _ _ (execs (Stmt.Assign [Expr.Name _ _] _ _ :: _) _) _ _ _); refine rAs ?_) | with_reducible refine rRet ?_ | with_reducible refine rIf ?_ | with_reducible refine wpAny_BinOp ?_ | with_reducible refine rI ?_ | with_reducible refine rS ?_ | ((with_reducible show wpAny _ _ (eval (Expr.Name _ _) _) _ _ _); refine nL (by assumption) rfl ?_) | ((with_reducible show wpAny _ _ (storeName _ _ _) _ _ _); refine rSt (by assumption) ?_; intro _ _) | ((with_reducible show wpAny _ _ (isTrue (Expr.Compare _ [_] [_] _) _ _) _ _ _); refine wpAny_isTrue_Compare1 ?_) | with_reducible refine wpAny_truthy_bool ?_ | with_reducible refine rEq ?_ | ((with_reducible show wpAny _ _ (eval (Expr.Call _ _ [] _) _) _ _ _); refine Call_ ?_) | ((with_reducible show wpAny _ _ (spliced (backTo _ (starEach (_ :: _) _))) _ _ _); refine spliced_more ?_) | ((with_reducible show wpAny _ _ (spliced (backTo _ (starEach [] _))) _ _ _); refine spliced_none ?_) | with_reducible refine wpAny_IfExp ?_))
  refine rM ?_
  refine rAt ?_
  refine nL F rfl ?_
  refine rGA G F.ok X1.lx ed (fo_ins ..) rfl ?_
  refine rGMd G F.ok X1.sx es (q_rd w) (fo_rd ..) rfl ?_
  have ldL : @Ne Nat a.ldx hp.objs.size := by
    obtain ⟨_, _, _, _, _, _, _, e⟩ := X.ldx
    exact Nat.ne_of_lt (Heap.lt_size e)
  have lL : @Ne Nat a.l hp.objs.size := by
    obtain ⟨_, _, e, _⟩ := X.l
    exact Nat.ne_of_lt (Heap.lt_size e)
  have F2 := (F.addT ed (by simp) (X.lo _ (by simp)) (fun _ q => (nomatch q)) ldL).addT el (by simp) (X.lo _ (by simp)) (fun p hp' z => by
    cases List.mem_singleton.mp hp'
    exact get_ne ed el (by simp) z) lL
  dsimp only
  refine rCW X1.f hfd ?_
  repeat (first | (first | ((with_reducible show wpAny _ _ (execs (Stmt.Assign [Expr.Name _ _] _ _ :: _) _) _ _ _); refine rAs ?_) | with_reducible refine rRet ?_ | with_reducible refine rIf ?_ | with_reducible refine wpAny_BinOp ?_ | with_reducible refine rI ?_ | with_reducible refine rS ?_ | ((with_reducible show wpAny _ _ (eval (Expr.Name _ _) _) _ _ _); refine nL (by assumption) rfl ?_) | ((with_reducible show wpAny _ _ (storeName _ _ _) _ _ _); refine rSt (by assumption) ?_; intro _ _) | ((with_reducible show wpAny _ _ (isTrue (Expr.Compare _ [_] [_] _) _ _) _ _ _); refine wpAny_isTrue_Compare1 ?_) | with_reducible refine wpAny_truthy_bool ?_ | with_reducible refine rEq ?_ | ((with_reducible show wpAny _ _ (eval (Expr.Call _ _ [] _) _) _ _ _); refine Call_ ?_) | ((with_reducible show wpAny _ _ (spliced (backTo _ (starEach (_ :: _) _))) _ _ _); refine spliced_more ?_) | ((with_reducible show wpAny _ _ (spliced (backTo _ (starEach [] _))) _ _ _); refine spliced_none ?_) | with_reducible refine wpAny_IfExp ?_) | (dsimp only; first | ((with_reducible show wpAny _ _ (execs (Stmt.Assign [Expr.Name _ _] _ _ :: _) _) _ _ _); refine rAs ?_) | with_reducible refine rRet ?_ | with_reducible refine rIf ?_ | with_reducible refine wpAny_BinOp ?_ | with_reducible refine rI ?_ | with_reducible refine rS ?_ | ((with_reducible show wpAny _ _ (eval (Expr.Name _ _) _) _ _ _); refine nL (by assumption) rfl ?_) | ((with_reducible show wpAny _ _ (storeName _ _ _) _ _ _); refine rSt (by assumption) ?_; intro _ _) | ((with_reducible show wpAny _ _ (isTrue (Expr.Compare _ [_] [_] _) _ _) _ _ _); refine wpAny_isTrue_Compare1 ?_) | with_reducible refine wpAny_truthy_bool ?_ | with_reducible refine rEq ?_ | ((with_reducible show wpAny _ _ (eval (Expr.Call _ _ [] _) _) _ _ _); refine Call_ ?_) | ((with_reducible show wpAny _ _ (spliced (backTo _ (starEach (_ :: _) _))) _ _ _); refine spliced_more ?_) | ((with_reducible show wpAny _ _ (spliced (backTo _ (starEach [] _))) _ _ _); refine spliced_none ?_) | with_reducible refine wpAny_IfExp ?_))
  refine ⟨X1.f, ?_⟩
  refine X1.nx.call F2.ok (rm1.le (by decide)) X1.f X1.c X1.cc el (by rw [ca.1]; exact hlen) ?_
  intro h3 tk3 v r n' hv k3 K3 e3
  have F3 := F2.call1 0 rfl k3 K3 e3
  obtain ⟨cs', sv, tv, hT, rfl, ca'⟩ : ∃ cs' sv tv, Take cs v cs' ∧ v = .str sv tv ∧ CA r cs' := by
    rcases hv with ⟨rfl, rfl, t, rfl⟩ | rfl
    · have : cs = [] := List.eq_nil_of_length_eq_zero ca.1.symm
      subst this
      exact ⟨[], _, _, .inl ⟨rfl, rfl, _, rfl⟩, rfl, ca⟩
    · cases cs with
      | nil => exact absurd ca.1 (by simp)
      | cons c cs' =>
        obtain ⟨t, r', e, ca'⟩ := ca.cons
        cases e
        exact ⟨cs', _, _, .inr ⟨c, t, rfl, rfl⟩, rfl, ca'⟩
  refine rSt F3 ?_
  intro h4 F4
  repeat (first | (first | ((with_reducible show wpAny _ _ (execs (Stmt.Assign [Expr.Name _ _] _ _ :: _) _) _ _ _); refine rAs ?_) | with_reducible refine rRet ?_ | with_reducible refine rIf ?_ | with_reducible refine wpAny_BinOp ?_ | with_reducible refine rI ?_ | with_reducible refine rS ?_ | ((with_reducible show wpAny _ _ (eval (Expr.Name _ _) _) _ _ _); refine nL (by assumption) rfl ?_) | ((with_reducible show wpAny _ _ (storeName _ _ _) _ _ _); refine rSt (by assumption) ?_; intro _ _) | ((with_reducible show wpAny _ _ (isTrue (Expr.Compare _ [_] [_] _) _ _) _ _ _); refine wpAny_isTrue_Compare1 ?_) | with_reducible refine wpAny_truthy_bool ?_ | with_reducible refine rEq ?_ | ((with_reducible show wpAny _ _ (eval (Expr.Call _ _ [] _) _) _ _ _); refine Call_ ?_) | ((with_reducible show wpAny _ _ (spliced (backTo _ (starEach (_ :: _) _))) _ _ _); refine spliced_more ?_) | ((with_reducible show wpAny _ _ (spliced (backTo _ (starEach [] _))) _ _ _); refine spliced_none ?_) | with_reducible refine wpAny_IfExp ?_) | (dsimp only; first | ((with_reducible show wpAny _ _ (execs (Stmt.Assign [Expr.Name _ _] _ _ :: _) _) _ _ _); refine rAs ?_) | with_reducible refine rRet ?_ | with_reducible refine rIf ?_ | with_reducible refine wpAny_BinOp ?_ | with_reducible refine rI ?_ | with_reducible refine rS ?_ | ((with_reducible show wpAny _ _ (eval (Expr.Name _ _) _) _ _ _); refine nL (by assumption) rfl ?_) | ((with_reducible show wpAny _ _ (storeName _ _ _) _ _ _); refine rSt (by assumption) ?_; intro _ _) | ((with_reducible show wpAny _ _ (isTrue (Expr.Compare _ [_] [_] _) _ _) _ _ _); refine wpAny_isTrue_Compare1 ?_) | with_reducible refine wpAny_truthy_bool ?_ | with_reducible refine rEq ?_ | ((with_reducible show wpAny _ _ (eval (Expr.Call _ _ [] _) _) _ _ _); refine Call_ ?_) | ((with_reducible show wpAny _ _ (spliced (backTo _ (starEach (_ :: _) _))) _ _ _); refine spliced_more ?_) | ((with_reducible show wpAny _ _ (spliced (backTo _ (starEach [] _))) _ _ _); refine spliced_none ?_) | with_reducible refine wpAny_IfExp ?_))
  refine rEqS ?_
  repeat (first | (first | ((with_reducible show wpAny _ _ (execs (Stmt.Assign [Expr.Name _ _] _ _ :: _) _) _ _ _); refine rAs ?_) | with_reducible refine rRet ?_ | with_reducible refine rIf ?_ | with_reducible refine wpAny_BinOp ?_ | with_reducible refine rI ?_ | with_reducible refine rS ?_ | ((with_reducible show wpAny _ _ (eval (Expr.Name _ _) _) _ _ _); refine nL (by assumption) rfl ?_) | ((with_reducible show wpAny _ _ (storeName _ _ _) _ _ _); refine rSt (by assumption) ?_; intro _ _) | ((with_reducible show wpAny _ _ (isTrue (Expr.Compare _ [_] [_] _) _ _) _ _ _); refine wpAny_isTrue_Compare1 ?_) | with_reducible refine wpAny_truthy_bool ?_ | with_reducible refine rEq ?_ | ((with_reducible show wpAny _ _ (eval (Expr.Call _ _ [] _) _) _ _ _); refine Call_ ?_) | ((with_reducible show wpAny _ _ (spliced (backTo _ (starEach (_ :: _) _))) _ _ _); refine spliced_more ?_) | ((with_reducible show wpAny _ _ (spliced (backTo _ (starEach [] _))) _ _ _); refine spliced_none ?_) | with_reducible refine wpAny_IfExp ?_) | (dsimp only; first | ((with_reducible show wpAny _ _ (execs (Stmt.Assign [Expr.Name _ _] _ _ :: _) _) _ _ _); refine rAs ?_) | with_reducible refine rRet ?_ | with_reducible refine rIf ?_ | with_reducible refine wpAny_BinOp ?_ | with_reducible refine rI ?_ | with_reducible refine rS ?_ | ((with_reducible show wpAny _ _ (eval (Expr.Name _ _) _) _ _ _); refine nL (by assumption) rfl ?_) | ((with_reducible show wpAny _ _ (storeName _ _ _) _ _ _); refine rSt (by assumption) ?_; intro _ _) | ((with_reducible show wpAny _ _ (isTrue (Expr.Compare _ [_] [_] _) _ _) _ _ _); refine wpAny_isTrue_Compare1 ?_) | with_reducible refine wpAny_truthy_bool ?_ | with_reducible refine rEq ?_ | ((with_reducible show wpAny _ _ (eval (Expr.Call _ _ [] _) _) _ _ _); refine Call_ ?_) | ((with_reducible show wpAny _ _ (spliced (backTo _ (starEach (_ :: _) _))) _ _ _); refine spliced_more ?_) | ((with_reducible show wpAny _ _ (spliced (backTo _ (starEach [] _))) _ _ _); refine spliced_none ?_) | with_reducible refine wpAny_IfExp ?_))
  have fin : ∀ h' tks, (∃ mm t1 t2 t3 t4 ln u1 u3, FS g0 hp [a.ldx, a.l] hp.objs.size h' mm [(a.l, LO r n'), (a.ldx, lexD w t1 t2 t3 t4 (.int ln u1) (.ref a.sx) (.str "\n\t\r " u3) a.pb)]) → R (.ok (.ret (.str sv tv))) ⟨h', gn, dr, tks, os⟩ := by
    rintro h' tks ⟨mm, t1, t2, t3, t4, ln, u1, u3, F'⟩
    exact h _ cs' h' tks hT F'.ok F'.kp (X.step k F'.kp ⟨_, _, _, _, _, _, _, F'.at 1 rfl⟩ ⟨_, _, F'.at 0 rfl, ca'⟩)
  by_cases hnl : (sv == "\n") = true
  · refine iteT hnl ?_
    have X4 : LX w g0 h4 a cs' := X.step k F4.kp ⟨_, _, _, _, _, _, _, F4.at 1 rfl⟩ ⟨_, _, F4.at 0 rfl, ca'⟩
    refine rAuA ?_
    refine nL F4 rfl ?_
    refine rGA G F4.ok X4.lx (F4.at 1 rfl) (fo_ln ..) rfl ?_
    repeat (first | (first | ((with_reducible show wpAny _ _ (execs (Stmt.Assign [Expr.Name _ _] _ _ :: _) _) _ _ _); refine rAs ?_) | with_reducible refine rRet ?_ | with_reducible refine rIf ?_ | with_reducible refine wpAny_BinOp ?_ | with_reducible refine rI ?_ | with_reducible refine rS ?_ | ((with_reducible show wpAny _ _ (eval (Expr.Name _ _) _) _ _ _); refine nL (by assumption) rfl ?_) | ((with_reducible show wpAny _ _ (storeName _ _ _) _ _ _); refine rSt (by assumption) ?_; intro _ _) | ((with_reducible show wpAny _ _ (isTrue (Expr.Compare _ [_] [_] _) _ _) _ _ _); refine wpAny_isTrue_Compare1 ?_) | with_reducible refine wpAny_truthy_bool ?_ | with_reducible refine rEq ?_ | ((with_reducible show wpAny _ _ (eval (Expr.Call _ _ [] _) _) _ _ _); refine Call_ ?_) | ((with_reducible show wpAny _ _ (spliced (backTo _ (starEach (_ :: _) _))) _ _ _); refine spliced_more ?_) | ((with_reducible show wpAny _ _ (spliced (backTo _ (starEach [] _))) _ _ _); refine spliced_none ?_) | with_reducible refine wpAny_IfExp ?_) | (dsimp only; first | ((with_reducible show wpAny _ _ (execs (Stmt.Assign [Expr.Name _ _] _ _ :: _) _) _ _ _); refine rAs ?_) | with_reducible refine rRet ?_ | with_reducible refine rIf ?_ | with_reducible refine wpAny_BinOp ?_ | with_reducible refine rI ?_ | with_reducible refine rS ?_ | ((with_reducible show wpAny _ _ (eval (Expr.Name _ _) _) _ _ _); refine nL (by assumption) rfl ?_) | ((with_reducible show wpAny _ _ (storeName _ _ _) _ _ _); refine rSt (by assumption) ?_; intro _ _) | ((with_reducible show wpAny _ _ (isTrue (Expr.Compare _ [_] [_] _) _ _) _ _ _); refine wpAny_isTrue_Compare1 ?_) | with_reducible refine wpAny_truthy_bool ?_ | with_reducible refine rEq ?_ | ((with_reducible show wpAny _ _ (eval (Expr.Call _ _ [] _) _) _ _ _); refine Call_ ?_) | ((with_reducible show wpAny _ _ (spliced (backTo _ (starEach (_ :: _) _))) _ _ _); refine spliced_more ?_) | ((with_reducible show wpAny _ _ (spliced (backTo _ (starEach [] _))) _ _ _); refine spliced_none ?_) | with_reducible refine wpAny_IfExp ?_))
    refine rIAdd ?_
    refine rSA (es := [aE w "lineno" t1 (.int (ln + 1) _), aE w "instream" t2 (.ref a.sx), aE w "whitespace" t3 (.str "\n\t\r " u3), aE w "pushback" t4 (.ref a.pb)]) G F4 1 rfl X4.lx (q_t1 w) (by rfl) (dict_nc rfl) rfl rfl (by simp) ?_
    intro h5 F5
    refine rNil ?_
    repeat (first | (first | ((with_reducible show wpAny _ _ (execs (Stmt.Assign [Expr.Name _ _] _ _ :: _) _) _ _ _); refine rAs ?_) | with_reducible refine rRet ?_ | with_reducible refine rIf ?_ | with_reducible refine wpAny_BinOp ?_ | with_reducible refine rI ?_ | with_reducible refine rS ?_ | ((with_reducible show wpAny _ _ (eval (Expr.Name _ _) _) _ _ _); refine nL (by assumption) rfl ?_) | ((with_reducible show wpAny _ _ (storeName _ _ _) _ _ _); refine rSt (by assumption) ?_; intro _ _) | ((with_reducible show wpAny _ _ (isTrue (Expr.Compare _ [_] [_] _) _ _) _ _ _); refine wpAny_isTrue_Compare1 ?_) | with_reducible refine wpAny_truthy_bool ?_ | with_reducible refine rEq ?_ | ((with_reducible show wpAny _ _ (eval (Expr.Call _ _ [] _) _) _ _ _); refine Call_ ?_) | ((with_reducible show wpAny _ _ (spliced (backTo _ (starEach (_ :: _) _))) _ _ _); refine spliced_more ?_) | ((with_reducible show wpAny _ _ (spliced (backTo _ (starEach [] _))) _ _ _); refine spliced_none ?_) | with_reducible refine wpAny_IfExp ?_) | (dsimp only; first | ((with_reducible show wpAny _ _ (execs (Stmt.Assign [Expr.Name _ _] _ _ :: _) _) _ _ _); refine rAs ?_) | with_reducible refine rRet ?_ | with_reducible refine rIf ?_ | with_reducible refine wpAny_BinOp ?_ | with_reducible refine rI ?_ | with_reducible refine rS ?_ | ((with_reducible show wpAny _ _ (eval (Expr.Name _ _) _) _ _ _); refine nL (by assumption) rfl ?_) | ((with_reducible show wpAny _ _ (storeName _ _ _) _ _ _); refine rSt (by assumption) ?_; intro _ _) | ((with_reducible show wpAny _ _ (isTrue (Expr.Compare _ [_] [_] _) _ _) _ _ _); refine wpAny_isTrue_Compare1 ?_) | with_reducible refine wpAny_truthy_bool ?_ | with_reducible refine rEq ?_ | ((with_reducible show wpAny _ _ (eval (Expr.Call _ _ [] _) _) _ _ _); refine Call_ ?_) | ((with_reducible show wpAny _ _ (spliced (backTo _ (starEach (_ :: _) _))) _ _ _); refine spliced_more ?_) | ((with_reducible show wpAny _ _ (spliced (backTo _ (starEach [] _))) _ _ _); refine spliced_none ?_) | with_reducible refine wpAny_IfExp ?_))
    exact fin _ _ ⟨_, _, _, _, _, _, _, _, F5⟩
  · refine iteF hnl ?_
    refine rNil ?_
    repeat (first | (first | ((with_reducible show wpAny _ _ (execs (Stmt.Assign [Expr.Name _ _] _ _ :: _) _) _ _ _); refine rAs ?_) | with_reducible refine rRet ?_ | with_reducible refine rIf ?_ | with_reducible refine wpAny_BinOp ?_ | with_reducible refine rI ?_ | with_reducible refine rS ?_ | ((with_reducible show wpAny _ _ (eval (Expr.Name _ _) _) _ _ _); refine nL (by assumption) rfl ?_) | ((with_reducible show wpAny _ _ (storeName _ _ _) _ _ _); refine rSt (by assumption) ?_; intro _ _) | ((with_reducible show wpAny _ _ (isTrue (Expr.Compare _ [_] [_] _) _ _) _ _ _); refine wpAny_isTrue_Compare1 ?_) | with_reducible refine wpAny_truthy_bool ?_ | with_reducible refine rEq ?_ | ((with_reducible show wpAny _ _ (eval (Expr.Call _ _ [] _) _) _ _ _); refine Call_ ?_) | ((with_reducible show wpAny _ _ (spliced (backTo _ (starEach (_ :: _) _))) _ _ _); refine spliced_more ?_) | ((with_reducible show wpAny _ _ (spliced (backTo _ (starEach [] _))) _ _ _); refine spliced_none ?_) | with_reducible refine wpAny_IfExp ?_) | (dsimp only; first | ((with_reducible show wpAny _ _ (execs (Stmt.Assign [Expr.Name _ _] _ _ :: _) _) _ _ _); refine rAs ?_) | with_reducible refine rRet ?_ | with_reducible refine rIf ?_ | with_reducible refine wpAny_BinOp ?_ | with_reducible refine rI ?_ | with_reducible refine rS ?_ | ((with_reducible show wpAny _ _ (eval (Expr.Name _ _) _) _ _ _); refine nL (by assumption) rfl ?_) | ((with_reducible show wpAny _ _ (storeName _ _ _) _ _ _); refine rSt (by assumption) ?_; intro _ _) | ((with_reducible show wpAny _ _ (isTrue (Expr.Compare _ [_] [_] _) _ _) _ _ _); refine wpAny_isTrue_Compare1 ?_) | with_reducible refine wpAny_truthy_bool ?_ | with_reducible refine rEq ?_ | ((with_reducible show wpAny _ _ (eval (Expr.Call _ _ [] _) _) _ _ _); refine Call_ ?_) | ((with_reducible show wpAny _ _ (spliced (backTo _ (starEach (_ :: _) _))) _ _ _); refine spliced_more ?_) | ((with_reducible show wpAny _ _ (spliced (backTo _ (starEach [] _))) _ _ _); refine spliced_none ?_) | with_reducible refine wpAny_IfExp ?_))
    exact fin _ _ ⟨_, _, _, _, _, _, _, _, F4⟩
end Mine

namespace Mine
abbrev tx (cs : List Nat) : Str := ⟨cs.toArray⟩
theorem tx_app (a : List Nat) (c : Nat) : tx a ++ chr c = tx (a ++ [c]) := by
  show Str.mk _ = _
  first | simp | rfl
def Ltr (c : Nat) : Prop := 65 ≤ c ∧ c ≤ 80
def Spc (c : Nat) : Prop := c = 10 ∨ c = 32
theorem ltr_ex {p : Nat → Bool} (h : ∀ d : Fin 16, p (65 + d.val) = true) {c : Nat} (hc : Ltr c) : p c = true := by
  have := h ⟨c - 65, by have := hc.1; have := hc.2; omega⟩
  have e : 65 + (c - 65) = c := by have := hc.1; omega
  simpa [e] using this
theorem l_ws {c : Nat} (hc : Ltr c) : (!(Builtin.Str.occurrences "\n\t\r " (chr c) 0 (Str.length "\n\t\r ") 1).isEmpty) = false := by
  have := ltr_ex (p := fun c => !(!(Builtin.Str.occurrences "\n\t\r " (chr c) 0 (Str.length "\n\t\r ") 1).isEmpty)) (by decide +kernel) hc
  simpa using this
theorem s_ws {c : Nat} (hc : Spc c) : (!(Builtin.Str.occurrences "\n\t\r " (chr c) 0 (Str.length "\n\t\r ") 1).isEmpty) = true := by
  rcases hc with rfl | rfl <;> decide +kernel
theorem l_dq {c : Nat} (hc : Ltr c) : (chr c == ("\"" : Str)) = false := by
  have := ltr_ex (p := fun c => !(chr c == ("\"" : Str))) (by decide +kernel) hc
  simpa using this
theorem l_bs {c : Nat} (hc : Ltr c) : (chr c == ("\\" : Str)) = false := by
  have := ltr_ex (p := fun c => !(chr c == ("\\" : Str))) (by decide +kernel) hc
  simpa using this
theorem chr_ne (c : Nat) : chr c ≠ "" := by
  intro h
  have := congrArg (fun s : Str => s.cps.size) h
  revert this
  simp
  first | decide | exact fun q => absurd q (by decide)
section
variable {w : World} {A : Around} {E : Value → Shared → Prop} {Q : Value → Shared → Prop} {t u : Tok} {hp h' : Heap} {gn : Array GenState} {dr : Drawn} {tk : Nat} {os : OsState} {pos : Pos} {k : Nat} {env : Env}
  {g0 g : Heap} {T : List Addr} {L : Addr} {m : Str → Option Value} {nw : List (Addr × Obj)} {mg mb : Str → Option Value}
theorem FS.callT (F : FS g0 g T L hp m nw) (k : OK g0 h') (K : Kp T hp h') (hT : ∀ t ∈ T, t < g.objs.size) (hn : ∀ p ∈ nw, p.1 ∉ T) : FS g0 g T L h' m nw := by
  have nt : ∀ a, g0.objs.size ≤ a → a ∉ tabs := fun a ha q => absurd (F.ok.lt a q) (Nat.not_lt.mpr ha)
  refine ⟨k, F.kp.trans K, F.g0g, ?_, F.le, fun p hp => K.kp _ _ (F.nws p hp) (nt _ (F.lo0 hp)) (hn p hp), F.lo, F.nd, F.nL⟩
  obtain ⟨oL, es, ep, eL, r⟩ := F.ns
  exact ⟨oL, es, ep, K.kp _ _ eL (nt _ (Nat.le_trans F.g0g F.le)) (fun q => absurd F.le (Nat.not_le.mpr (hT _ q))), r⟩
theorem rAuN {x : Str} {value : Expr} {pos' : Pos} {op : Operator} {rest : List Stmt} {Q : Flow → Shared → Prop}
    (h : wpAny (model PP w) A (loadName env x) (fun old s₁ => wpAny (model PP w) A (eval value env) (fun v s₂ => wpAny (model PP w) A (inplaceOp op old v)
      (fun r s₃ => wpAny (model PP w) A (storeName env x r) (fun _ s₄ => wpAny (model PP w) A (execs rest env) Q E s₄) E s₃) E s₂) E s₁) E ⟨hp, gn, dr, tk, os⟩) :
    wpAny (model PP w) A (execs (.AugAssign (.Name x pos') op value pos :: rest) env) Q E ⟨hp, gn, dr, tk, os⟩ := wpAny_execs_cons (wpAny_AugAssign_Name h)
theorem rIn {x y : Str} (h : Q (.bool !(Builtin.Str.occurrences x y 0 x.length 1).isEmpty) ⟨hp, gn, dr, tk, os⟩) : wpAny (model PP w) A (compareOp .In (.str y u) (.str x t)) Q E ⟨hp, gn, dr, tk, os⟩ := PyProof.Rows.in_str h
theorem rISt {x y : Str} (hsz : x.length + y.length ≤ 2 ^ 21) (h : ∀ t' tk', Q (.str (x ++ y) t') ⟨hp, gn, dr, tk', os⟩) : wpAny (model PP w) A (inplaceOp .Add (.str x t) (.str y u)) Q E ⟨hp, gn, dr, tk, os⟩ := PyProof.Rows.iadd_str h (by simp [sizeLine]; omega)
end
end Mine

namespace Mine
theorem FS.weakT {g0 g h : Heap} {L : Addr} {m : Str → Option Value} {nw : List (Addr × Obj)} (F : FS g0 g [] L h m nw) (T : List Addr) : FS g0 g T L h m nw :=
  ⟨F.ok, F.kp.weak (fun _ q => (nomatch q)), F.g0g, F.ns, F.le, F.nws, fun p hp => (F.lo p hp).imp id (fun q => (nomatch q.1)), F.nd, F.nL⟩
theorem c_gt {w : World} {mg mb : Str → Option Value} {g0 : Heap} (G : Gd w mg mb g0) {A : Around} {R : Result → Shared → Prop} {hp : Heap} {gn : Array GenState} {dr : Drawn} {tk0 : Nat} {os : OsState} (k : OK g0 hp) {a : LA} {wd rest : List Nat}
  (rm : Rm A 9) (X : LX w g0 hp a (wd ++ rest)) (hlen : (wd ++ rest).length ≤ 2 ^ 20) (hwd : ∀ c ∈ wd, Ltr c) (hrest : rest = [] ∨ (wd ≠ [] ∧ ∃ s r, rest = s :: r ∧ Spc s))
 (h : ∀ t h' tks, OK g0 h' → Kp [a.ldx, a.l] hp h' → LX w g0 h' a rest.tail → R (.ok (.ret (.str (tx wd) t))) ⟨h', gn, dr, tks, os⟩) :
  codeAny (model PP w) A (.call (.ref aGT) ⟨[.ref a.lx], []⟩) R ⟨hp, gn, dr, tk0, os⟩ := by
  refine ent (T := []) (n := 8) (binds := [("self", .ref a.lx)]) G k rm (k.at0 G rfl) rfl (k.code G rfl) rfl rfl rfl rfl rfl rfl rfl ?_
  intro h1 tk1 F rm1 kk
  have X1 : LX w g0 h1 a (wd ++ rest) := X.keep k ⟨F.gsz, fun b o e _ _ => kk b o e⟩
  have hT : ∀ t ∈ [a.ldx, a.l], t < hp.objs.size := by
    intro t ht
    obtain ⟨_, _, _, _, _, _, _, e⟩ := X.ldx
    obtain ⟨_, _, e2, _⟩ := X.l
    rcases List.mem_cons.mp ht with rfl | ht
    · exact Heap.lt_size e
    · cases List.mem_singleton.mp ht
      exact Heap.lt_size e2
  obtain ⟨t1, t2, t3, t4, ln, u1, u3, ed⟩ := X1.ldx
  refine rIf ?_
  refine isTrue_plain ?_
  refine rAt ?_
  refine nL F rfl ?_
  refine rGA G F.ok X1.lx ed (fo_pb ..) rfl ?_
  refine wpAny_truthy_list (LO.is X1.pb) (by simp) ?_
  refine iteF (by simp) ?_
  refine rNil ?_
  repeat (first | (first | ((with_reducible show wpAny _ _ (execs (Stmt.Assign [Expr.Name _ _] _ _ :: _) _) _ _ _); refine rAs ?_) | with_reducible refine rRet ?_ | with_reducible refine rIf ?_ | with_reducible refine wpAny_BinOp ?_ | with_reducible refine rI ?_ | with_reducible refine rS ?_ | ((with_reducible show wpAny _ _ (eval (Expr.Name _ _) _) _ _ _); refine nL (by assumption) rfl ?_) | ((with_reducible show wpAny _ _ (storeName _ _ _) _ _ _); refine rSt (by assumption) ?_; intro _ _) | ((with_reducible show wpAny _ _ (isTrue (Expr.Compare _ [_] [_] _) _ _) _ _ _); refine wpAny_isTrue_Compare1 ?_) | with_reducible refine wpAny_truthy_bool ?_ | with_reducible refine rEq ?_ | ((with_reducible show wpAny _ _ (eval (Expr.Call _ _ [] _) _) _ _ _); refine Call_ ?_) | ((with_reducible show wpAny _ _ (spliced (backTo _ (starEach (_ :: _) _))) _ _ _); refine spliced_more ?_) | ((with_reducible show wpAny _ _ (spliced (backTo _ (starEach [] _))) _ _ _); refine spliced_none ?_) | with_reducible refine wpAny_IfExp ?_) | (dsimp only; first | ((with_reducible show wpAny _ _ (execs (Stmt.Assign [Expr.Name _ _] _ _ :: _) _) _ _ _); refine rAs ?_) | with_reducible refine rRet ?_ | with_reducible refine rIf ?_ | with_reducible refine wpAny_BinOp ?_ | with_reducible refine rI ?_ | with_reducible refine rS ?_ | ((with_reducible show wpAny _ _ (eval (Expr.Name _ _) _) _ _ _); refine nL (by assumption) rfl ?_) | ((with_reducible show wpAny _ _ (storeName _ _ _) _ _ _); refine rSt (by assumption) ?_; intro _ _) | ((with_reducible show wpAny _ _ (isTrue (Expr.Compare _ [_] [_] _) _ _) _ _ _); refine wpAny_isTrue_Compare1 ?_) | with_reducible refine wpAny_truthy_bool ?_ | with_reducible refine rEq ?_ | ((with_reducible show wpAny _ _ (eval (Expr.Call _ _ [] _) _) _ _ _); refine Call_ ?_) | ((with_reducible show wpAny _ _ (spliced (backTo _ (starEach (_ :: _) _))) _ _ _); refine spliced_more ?_) | ((with_reducible show wpAny _ _ (spliced (backTo _ (starEach [] _))) _ _ _); refine spliced_none ?_) | with_reducible refine wpAny_IfExp ?_))
  rename_i h2 F2
  have X2 : LX w g0 h2 a (wd ++ rest) := X.keep k F2.kp
  obtain ⟨t1, t2, t3, t4, ln, u1, u3, ed⟩ := X2.ldx
  refine nB G F2 rfl rfl ?_
  refine rCB ?_
  refine spliced_more ?_
  refine rAt ?_
  refine nL F2 rfl ?_
  refine rGB G F2.ok X2.lx ed (fo_rc ..) (q_rcf w) ?_
  intro tk3
  have F3 := F2.psh (methodObj (.ref aRC) (.ref a.lx))
  generalize hb : h2.objs.size = b at *
  repeat (first | (first | ((with_reducible show wpAny _ _ (execs (Stmt.Assign [Expr.Name _ _] _ _ :: _) _) _ _ _); refine rAs ?_) | with_reducible refine rRet ?_ | with_reducible refine rIf ?_ | with_reducible refine wpAny_BinOp ?_ | with_reducible refine rI ?_ | with_reducible refine rS ?_ | ((with_reducible show wpAny _ _ (eval (Expr.Name _ _) _) _ _ _); refine nL (by assumption) rfl ?_) | ((with_reducible show wpAny _ _ (storeName _ _ _) _ _ _); refine rSt (by assumption) ?_; intro _ _) | ((with_reducible show wpAny _ _ (isTrue (Expr.Compare _ [_] [_] _) _ _) _ _ _); refine wpAny_isTrue_Compare1 ?_) | with_reducible refine wpAny_truthy_bool ?_ | with_reducible refine rEq ?_ | ((with_reducible show wpAny _ _ (eval (Expr.Call _ _ [] _) _) _ _ _); refine Call_ ?_) | ((with_reducible show wpAny _ _ (spliced (backTo _ (starEach (_ :: _) _))) _ _ _); refine spliced_more ?_) | ((with_reducible show wpAny _ _ (spliced (backTo _ (starEach [] _))) _ _ _); refine spliced_none ?_) | with_reducible refine wpAny_IfExp ?_) | (dsimp only; first | ((with_reducible show wpAny _ _ (execs (Stmt.Assign [Expr.Name _ _] _ _ :: _) _) _ _ _); refine rAs ?_) | with_reducible refine rRet ?_ | with_reducible refine rIf ?_ | with_reducible refine wpAny_BinOp ?_ | with_reducible refine rI ?_ | with_reducible refine rS ?_ | ((with_reducible show wpAny _ _ (eval (Expr.Name _ _) _) _ _ _); refine nL (by assumption) rfl ?_) | ((with_reducible show wpAny _ _ (storeName _ _ _) _ _ _); refine rSt (by assumption) ?_; intro _ _) | ((with_reducible show wpAny _ _ (isTrue (Expr.Compare _ [_] [_] _) _ _) _ _ _); refine wpAny_isTrue_Compare1 ?_) | with_reducible refine wpAny_truthy_bool ?_ | with_reducible refine rEq ?_ | ((with_reducible show wpAny _ _ (eval (Expr.Call _ _ [] _) _) _ _ _); refine Call_ ?_) | ((with_reducible show wpAny _ _ (spliced (backTo _ (starEach (_ :: _) _))) _ _ _); refine spliced_more ?_) | ((with_reducible show wpAny _ _ (spliced (backTo _ (starEach [] _))) _ _ _); refine spliced_none ?_) | with_reducible refine wpAny_IfExp ?_))
  refine rIter2 (F3.at 0 rfl) ?_
  have F4 := F3.psh (CIt b tk3)
  generalize hit : (h2.push (methodObj (.ref aRC) (.ref a.lx))).objs.size = it at *
  repeat (first | (first | ((with_reducible show wpAny _ _ (execs (Stmt.Assign [Expr.Name _ _] _ _ :: _) _) _ _ _); refine rAs ?_) | with_reducible refine rRet ?_ | with_reducible refine rIf ?_ | with_reducible refine wpAny_BinOp ?_ | with_reducible refine rI ?_ | with_reducible refine rS ?_ | ((with_reducible show wpAny _ _ (eval (Expr.Name _ _) _) _ _ _); refine nL (by assumption) rfl ?_) | ((with_reducible show wpAny _ _ (storeName _ _ _) _ _ _); refine rSt (by assumption) ?_; intro _ _) | ((with_reducible show wpAny _ _ (isTrue (Expr.Compare _ [_] [_] _) _ _) _ _ _); refine wpAny_isTrue_Compare1 ?_) | with_reducible refine wpAny_truthy_bool ?_ | with_reducible refine rEq ?_ | ((with_reducible show wpAny _ _ (eval (Expr.Call _ _ [] _) _) _ _ _); refine Call_ ?_) | ((with_reducible show wpAny _ _ (spliced (backTo _ (starEach (_ :: _) _))) _ _ _); refine spliced_more ?_) | ((with_reducible show wpAny _ _ (spliced (backTo _ (starEach [] _))) _ _ _); refine spliced_none ?_) | with_reducible refine wpAny_IfExp ?_) | (dsimp only; first | ((with_reducible show wpAny _ _ (execs (Stmt.Assign [Expr.Name _ _] _ _ :: _) _) _ _ _); refine rAs ?_) | with_reducible refine rRet ?_ | with_reducible refine rIf ?_ | with_reducible refine wpAny_BinOp ?_ | with_reducible refine rI ?_ | with_reducible refine rS ?_ | ((with_reducible show wpAny _ _ (eval (Expr.Name _ _) _) _ _ _); refine nL (by assumption) rfl ?_) | ((with_reducible show wpAny _ _ (storeName _ _ _) _ _ _); refine rSt (by assumption) ?_; intro _ _) | ((with_reducible show wpAny _ _ (isTrue (Expr.Compare _ [_] [_] _) _ _) _ _ _); refine wpAny_isTrue_Compare1 ?_) | with_reducible refine wpAny_truthy_bool ?_ | with_reducible refine rEq ?_ | ((with_reducible show wpAny _ _ (eval (Expr.Call _ _ [] _) _) _ _ _); refine Call_ ?_) | ((with_reducible show wpAny _ _ (spliced (backTo _ (starEach (_ :: _) _))) _ _ _); refine spliced_more ?_) | ((with_reducible show wpAny _ _ (spliced (backTo _ (starEach [] _))) _ _ _); refine spliced_none ?_) | with_reducible refine wpAny_IfExp ?_))
  rename_i h5 F5
  refine rForL ?_
  refine nL F5 rfl ?_
  refine rIterCI (F5.at 0 rfl) ?_
  have X5 : LX w g0 h5 a (wd ++ rest) := X.keep k F5.kp
  have F5' := F5.weakT [a.ldx, a.l]
  have hnT : ∀ p ∈ [(it, CIt b tk3), (b, methodObj (.ref aRC) (.ref a.lx))], p.1 ∉ [a.ldx, a.l] := by
    intro p hp' q
    have h1 := hT _ q
    have h2 : hp.objs.size ≤ p.1 := by
      rcases List.mem_cons.mp hp' with rfl | hp'
      · have : h2.objs.size ≤ it := by rw [← hit, Heap.size_push]; (clear hlen hrest hb hit h1; omega)
        exact Nat.le_trans F2.gsz this
      · cases List.mem_singleton.mp hp'
        exact hb ▸ F2.gsz
    exact absurd h1 (Nat.not_lt.mpr h2)
  have hitlo : hp.objs.size ≤ it := by
    have : h2.objs.size ≤ it := by rw [← hit, Heap.size_push]; (clear hlen hrest hb hit; omega)
    exact Nat.le_trans F2.gsz this
  have hbit : @Ne Nat b it := by
    have : it = h2.objs.size + 1 := by rw [← hit, Heap.size_push]
    have e2 : b = h2.objs.size := hb.symm
    (clear hlen hrest hit hitlo e2; omega)
  -- one turn of the iterator
  have turn : ∀ {A' : Around} {E' : Value → Shared → Prop} {Q' : Option Value → Shared → Prop} {h' : Heap} {mm : Str → Option Value} {tk' : Nat} {cs : List Nat}, Rm A' 7 → FS g0 hp [a.ldx, a.l] hp.objs.size h' mm [(it, CIt b tk3), (b, methodObj (.ref aRC) (.ref a.lx))] →
      LX w g0 h' a cs → cs.length ≤ 2 ^ 20 →
      (∀ h2 tk2, cs = [] → FS g0 hp [a.ldx, a.l] hp.objs.size h2 mm [(it, CEnd), (b, methodObj (.ref aRC) (.ref a.lx))] → LX w g0 h2 a [] → Q' none ⟨h2, gn, dr, tk2, os⟩) →
      (∀ h2 tk2 c r t, cs = c :: r → FS g0 hp [a.ldx, a.l] hp.objs.size h2 mm [(it, CIt b tk3), (b, methodObj (.ref aRC) (.ref a.lx))] → LX w g0 h2 a r → Q' (some (.str (chr c) t)) ⟨h2, gn, dr, tk2, os⟩) →
      wpAny (model PP w) A' (pyNext (.ref it)) Q' E' ⟨h', gn, dr, tk', os⟩ := by
    intro A' E' Q' h' mm tk' cs rm' F' X' hl' q1 q2
    refine rNextCI rm'.hd (F'.at 0 rfl) (F'.at 1 rfl) (F'.ok.at0 G rfl) rfl ?_
    refine c_rc G F'.ok (rm'.in1.le (by decide)) X' hl' ?_
    intro v cs' h2 tks hTk k2 K2 X2
    have F2 := F'.callT k2 K2 hT hnT
    rcases hTk with ⟨rfl, rfl, t, rfl⟩ | ⟨c, t, rfl, rfl⟩
    · refine ⟨_, _, rfl, F2.at 0 rfl, F2.at 1 rfl, F2.ok.at0 G rfl, ?_⟩
      rw [if_pos rfl]
      intro h3 E3 e3
      have F3 := (F2.dropX (fun vs q t z e => by cases z; cases e; rfl) E3).add e3 (by have := F2.lo _ (.head _); exact hitlo) (fun p hp' => by cases List.mem_singleton.mp hp'; exact hbit) (F2.nL _ (.head _))
      have nit : ∀ t ∈ [a.ldx, a.l], @Ne Nat t it := fun t q => Nat.ne_of_lt (Nat.lt_of_lt_of_le (hT t q) hitlo)
      refine q1 _ _ rfl F3 (X.step k F3.kp ?_ ?_)
      · obtain ⟨t1, t2, t3, t4, ln, u1, u3, e⟩ := X2.ldx
        exact ⟨t1, t2, t3, t4, ln, u1, u3, E3 _ _ (nit _ (by simp)) e⟩
      · obtain ⟨vs, n, e, c⟩ := X2.l
        exact ⟨vs, n, E3 _ _ (nit _ (by simp)) e, c⟩
    · refine ⟨_, _, rfl, F2.at 0 rfl, F2.at 1 rfl, F2.ok.at0 G rfl, ?_⟩
      rw [if_neg (chr_ne c)]
      exact q2 _ _ _ _ _ rfl F2 X2
  have xs : ∀ {h2 h3 : Heap} {cs : List Nat}, LX w g0 h2 a cs → Heap.SameBut hp.objs.size h2 h3 → Kp [a.ldx, a.l] hp h3 → LX w g0 h3 a cs := by
    intro h2 h3 cs Y S K
    have nit : ∀ t ∈ [a.ldx, a.l], @Ne Nat t hp.objs.size := fun t q => Nat.ne_of_lt (hT t q)
    refine X.step k K ?_ ?_
    · obtain ⟨t1, t2, t3, t4, ln, u1, u3, e⟩ := Y.ldx
      exact ⟨t1, t2, t3, t4, ln, u1, u3, (S.2 _ (nit _ (by simp))).trans e⟩
    · obtain ⟨vs, n, e, c⟩ := Y.l
      exact ⟨vs, n, (S.2 _ (nit _ (by simp))).trans e, c⟩
  refine rLoop (fun i s => ∃ h' tk' mm tt, FS g0 hp [a.ldx, a.l] hp.objs.size h' mm [(it, if i = 2 then CIt b tk3 else CEnd), (b, methodObj (.ref aRC) (.ref a.lx))] ∧ s = ⟨h', gn, dr, tk', os⟩ ∧ mm "self" = some (.ref a.lx) ∧ mm "fiter" = some (.ref it) ∧
    ((i = 2 ∧ mm "token" = some (.str "" tt) ∧ LX w g0 h' a (wd ++ rest)) ∨ (i = 1 ∧ rest = [] ∧ mm "token" = some (.str (tx wd) tt) ∧ LX w g0 h' a []))) ?_ 2 ?_
  · rintro J hJ i s ⟨h', tk', mm, tt, F', rfl, ms, mf, hc⟩
    rcases hc with ⟨rfl, mt, X'⟩ | ⟨rfl, hr, mt, X'⟩
    · refine turn (rm1.le (by decide)) F' X' hlen ?_ ?_
      · intro h2 tk2 hcs F2 Y2
        dsimp only
        obtain ⟨rfl, rfl⟩ := List.append_eq_nil_iff.mp hcs
        refine rRet ?_
        refine nL F2 mt ?_
        have q := fun tks => h tt h2 tks F2.ok F2.kp Y2
        exact q _
      · intro h2 tk2 c r t hcs F2 Y2
        dsimp only
        refine rStS F2 ?_
        intro h3 S3 F3
        have X3 : LX w g0 h3 a r := xs Y2 S3 F3.kp
        cases wd with
        | nil =>
          rcases hrest with rfl | ⟨q, _⟩
          · cases hcs
          · exact absurd rfl q
        | cons c' wd' =>
          cases hcs
          have hc := hwd c (.head _)
          refine rIf ?_
          refine wpAny_isTrue_Compare1 ?_
          refine nL F3 rfl ?_
          refine rAt ?_
          refine nL F3 ms ?_
          obtain ⟨t1, t2, t3, t4, ln, u1, u3, ed⟩ := X3.ldx
          refine rGA G F3.ok X3.lx ed (fo_ws ..) rfl ?_
          refine rIn ?_
          rw [l_ws hc]
          repeat (first | (first | ((with_reducible show wpAny _ _ (execs (Stmt.Assign [Expr.Name _ _] _ _ :: _) _) _ _ _); refine rAs ?_) | with_reducible refine rRet ?_ | with_reducible refine rIf ?_ | with_reducible refine wpAny_BinOp ?_ | with_reducible refine rI ?_ | with_reducible refine rS ?_ | ((with_reducible show wpAny _ _ (eval (Expr.Name _ _) _) _ _ _); refine nL (by assumption) rfl ?_) | ((with_reducible show wpAny _ _ (storeName _ _ _) _ _ _); refine rSt (by assumption) ?_; intro _ _) | ((with_reducible show wpAny _ _ (isTrue (Expr.Compare _ [_] [_] _) _ _) _ _ _); refine wpAny_isTrue_Compare1 ?_) | with_reducible refine wpAny_truthy_bool ?_ | with_reducible refine rEq ?_ | ((with_reducible show wpAny _ _ (eval (Expr.Call _ _ [] _) _) _ _ _); refine Call_ ?_) | ((with_reducible show wpAny _ _ (spliced (backTo _ (starEach (_ :: _) _))) _ _ _); refine spliced_more ?_) | ((with_reducible show wpAny _ _ (spliced (backTo _ (starEach [] _))) _ _ _); refine spliced_none ?_) | with_reducible refine wpAny_IfExp ?_) | (dsimp only; first | ((with_reducible show wpAny _ _ (execs (Stmt.Assign [Expr.Name _ _] _ _ :: _) _) _ _ _); refine rAs ?_) | with_reducible refine rRet ?_ | with_reducible refine rIf ?_ | with_reducible refine wpAny_BinOp ?_ | with_reducible refine rI ?_ | with_reducible refine rS ?_ | ((with_reducible show wpAny _ _ (eval (Expr.Name _ _) _) _ _ _); refine nL (by assumption) rfl ?_) | ((with_reducible show wpAny _ _ (storeName _ _ _) _ _ _); refine rSt (by assumption) ?_; intro _ _) | ((with_reducible show wpAny _ _ (isTrue (Expr.Compare _ [_] [_] _) _ _) _ _ _); refine wpAny_isTrue_Compare1 ?_) | with_reducible refine wpAny_truthy_bool ?_ | with_reducible refine rEq ?_ | ((with_reducible show wpAny _ _ (eval (Expr.Call _ _ [] _) _) _ _ _); refine Call_ ?_) | ((with_reducible show wpAny _ _ (spliced (backTo _ (starEach (_ :: _) _))) _ _ _); refine spliced_more ?_) | ((with_reducible show wpAny _ _ (spliced (backTo _ (starEach [] _))) _ _ _); refine spliced_none ?_) | with_reducible refine wpAny_IfExp ?_))
          refine iteF (by decide) ?_
          refine rNil ?_
          repeat (first | (first | ((with_reducible show wpAny _ _ (execs (Stmt.Assign [Expr.Name _ _] _ _ :: _) _) _ _ _); refine rAs ?_) | with_reducible refine rRet ?_ | with_reducible refine rIf ?_ | with_reducible refine wpAny_BinOp ?_ | with_reducible refine rI ?_ | with_reducible refine rS ?_ | ((with_reducible show wpAny _ _ (eval (Expr.Name _ _) _) _ _ _); refine nL (by assumption) rfl ?_) | ((with_reducible show wpAny _ _ (storeName _ _ _) _ _ _); refine rSt (by assumption) ?_; intro _ _) | ((with_reducible show wpAny _ _ (isTrue (Expr.Compare _ [_] [_] _) _ _) _ _ _); refine wpAny_isTrue_Compare1 ?_) | with_reducible refine wpAny_truthy_bool ?_ | with_reducible refine rEq ?_ | ((with_reducible show wpAny _ _ (eval (Expr.Call _ _ [] _) _) _ _ _); refine Call_ ?_) | ((with_reducible show wpAny _ _ (spliced (backTo _ (starEach (_ :: _) _))) _ _ _); refine spliced_more ?_) | ((with_reducible show wpAny _ _ (spliced (backTo _ (starEach [] _))) _ _ _); refine spliced_none ?_) | with_reducible refine wpAny_IfExp ?_) | (dsimp only; first | ((with_reducible show wpAny _ _ (execs (Stmt.Assign [Expr.Name _ _] _ _ :: _) _) _ _ _); refine rAs ?_) | with_reducible refine rRet ?_ | with_reducible refine rIf ?_ | with_reducible refine wpAny_BinOp ?_ | with_reducible refine rI ?_ | with_reducible refine rS ?_ | ((with_reducible show wpAny _ _ (eval (Expr.Name _ _) _) _ _ _); refine nL (by assumption) rfl ?_) | ((with_reducible show wpAny _ _ (storeName _ _ _) _ _ _); refine rSt (by assumption) ?_; intro _ _) | ((with_reducible show wpAny _ _ (isTrue (Expr.Compare _ [_] [_] _) _ _) _ _ _); refine wpAny_isTrue_Compare1 ?_) | with_reducible refine wpAny_truthy_bool ?_ | with_reducible refine rEq ?_ | ((with_reducible show wpAny _ _ (eval (Expr.Call _ _ [] _) _) _ _ _); refine Call_ ?_) | ((with_reducible show wpAny _ _ (spliced (backTo _ (starEach (_ :: _) _))) _ _ _); refine spliced_more ?_) | ((with_reducible show wpAny _ _ (spliced (backTo _ (starEach [] _))) _ _ _); refine spliced_none ?_) | with_reducible refine wpAny_IfExp ?_))
          refine rEqS ?_
          rw [l_dq hc]
          repeat (first | (first | ((with_reducible show wpAny _ _ (execs (Stmt.Assign [Expr.Name _ _] _ _ :: _) _) _ _ _); refine rAs ?_) | with_reducible refine rRet ?_ | with_reducible refine rIf ?_ | with_reducible refine wpAny_BinOp ?_ | with_reducible refine rI ?_ | with_reducible refine rS ?_ | ((with_reducible show wpAny _ _ (eval (Expr.Name _ _) _) _ _ _); refine nL (by assumption) rfl ?_) | ((with_reducible show wpAny _ _ (storeName _ _ _) _ _ _); refine rSt (by assumption) ?_; intro _ _) | ((with_reducible show wpAny _ _ (isTrue (Expr.Compare _ [_] [_] _) _ _) _ _ _); refine wpAny_isTrue_Compare1 ?_) | with_reducible refine wpAny_truthy_bool ?_ | with_reducible refine rEq ?_ | ((with_reducible show wpAny _ _ (eval (Expr.Call _ _ [] _) _) _ _ _); refine Call_ ?_) | ((with_reducible show wpAny _ _ (spliced (backTo _ (starEach (_ :: _) _))) _ _ _); refine spliced_more ?_) | ((with_reducible show wpAny _ _ (spliced (backTo _ (starEach [] _))) _ _ _); refine spliced_none ?_) | with_reducible refine wpAny_IfExp ?_) | (dsimp only; first | ((with_reducible show wpAny _ _ (execs (Stmt.Assign [Expr.Name _ _] _ _ :: _) _) _ _ _); refine rAs ?_) | with_reducible refine rRet ?_ | with_reducible refine rIf ?_ | with_reducible refine wpAny_BinOp ?_ | with_reducible refine rI ?_ | with_reducible refine rS ?_ | ((with_reducible show wpAny _ _ (eval (Expr.Name _ _) _) _ _ _); refine nL (by assumption) rfl ?_) | ((with_reducible show wpAny _ _ (storeName _ _ _) _ _ _); refine rSt (by assumption) ?_; intro _ _) | ((with_reducible show wpAny _ _ (isTrue (Expr.Compare _ [_] [_] _) _ _) _ _ _); refine wpAny_isTrue_Compare1 ?_) | with_reducible refine wpAny_truthy_bool ?_ | with_reducible refine rEq ?_ | ((with_reducible show wpAny _ _ (eval (Expr.Call _ _ [] _) _) _ _ _); refine Call_ ?_) | ((with_reducible show wpAny _ _ (spliced (backTo _ (starEach (_ :: _) _))) _ _ _); refine spliced_more ?_) | ((with_reducible show wpAny _ _ (spliced (backTo _ (starEach [] _))) _ _ _); refine spliced_none ?_) | with_reducible refine wpAny_IfExp ?_))
          refine iteF (by decide) ?_
          repeat (first | (first | ((with_reducible show wpAny _ _ (execs (Stmt.Assign [Expr.Name _ _] _ _ :: _) _) _ _ _); refine rAs ?_) | with_reducible refine rRet ?_ | with_reducible refine rIf ?_ | with_reducible refine wpAny_BinOp ?_ | with_reducible refine rI ?_ | with_reducible refine rS ?_ | ((with_reducible show wpAny _ _ (eval (Expr.Name _ _) _) _ _ _); refine nL (by assumption) rfl ?_) | ((with_reducible show wpAny _ _ (storeName _ _ _) _ _ _); refine rSt (by assumption) ?_; intro _ _) | ((with_reducible show wpAny _ _ (isTrue (Expr.Compare _ [_] [_] _) _ _) _ _ _); refine wpAny_isTrue_Compare1 ?_) | with_reducible refine wpAny_truthy_bool ?_ | with_reducible refine rEq ?_ | ((with_reducible show wpAny _ _ (eval (Expr.Call _ _ [] _) _) _ _ _); refine Call_ ?_) | ((with_reducible show wpAny _ _ (spliced (backTo _ (starEach (_ :: _) _))) _ _ _); refine spliced_more ?_) | ((with_reducible show wpAny _ _ (spliced (backTo _ (starEach [] _))) _ _ _); refine spliced_none ?_) | with_reducible refine wpAny_IfExp ?_) | (dsimp only; first | ((with_reducible show wpAny _ _ (execs (Stmt.Assign [Expr.Name _ _] _ _ :: _) _) _ _ _); refine rAs ?_) | with_reducible refine rRet ?_ | with_reducible refine rIf ?_ | with_reducible refine wpAny_BinOp ?_ | with_reducible refine rI ?_ | with_reducible refine rS ?_ | ((with_reducible show wpAny _ _ (eval (Expr.Name _ _) _) _ _ _); refine nL (by assumption) rfl ?_) | ((with_reducible show wpAny _ _ (storeName _ _ _) _ _ _); refine rSt (by assumption) ?_; intro _ _) | ((with_reducible show wpAny _ _ (isTrue (Expr.Compare _ [_] [_] _) _ _) _ _ _); refine wpAny_isTrue_Compare1 ?_) | with_reducible refine wpAny_truthy_bool ?_ | with_reducible refine rEq ?_ | ((with_reducible show wpAny _ _ (eval (Expr.Call _ _ [] _) _) _ _ _); refine Call_ ?_) | ((with_reducible show wpAny _ _ (spliced (backTo _ (starEach (_ :: _) _))) _ _ _); refine spliced_more ?_) | ((with_reducible show wpAny _ _ (spliced (backTo _ (starEach [] _))) _ _ _); refine spliced_none ?_) | with_reducible refine wpAny_IfExp ?_))
          refine rEqS ?_
          rw [l_bs hc]
          repeat (first | (first | ((with_reducible show wpAny _ _ (execs (Stmt.Assign [Expr.Name _ _] _ _ :: _) _) _ _ _); refine rAs ?_) | with_reducible refine rRet ?_ | with_reducible refine rIf ?_ | with_reducible refine wpAny_BinOp ?_ | with_reducible refine rI ?_ | with_reducible refine rS ?_ | ((with_reducible show wpAny _ _ (eval (Expr.Name _ _) _) _ _ _); refine nL (by assumption) rfl ?_) | ((with_reducible show wpAny _ _ (storeName _ _ _) _ _ _); refine rSt (by assumption) ?_; intro _ _) | ((with_reducible show wpAny _ _ (isTrue (Expr.Compare _ [_] [_] _) _ _) _ _ _); refine wpAny_isTrue_Compare1 ?_) | with_reducible refine wpAny_truthy_bool ?_ | with_reducible refine rEq ?_ | ((with_reducible show wpAny _ _ (eval (Expr.Call _ _ [] _) _) _ _ _); refine Call_ ?_) | ((with_reducible show wpAny _ _ (spliced (backTo _ (starEach (_ :: _) _))) _ _ _); refine spliced_more ?_) | ((with_reducible show wpAny _ _ (spliced (backTo _ (starEach [] _))) _ _ _); refine spliced_none ?_) | with_reducible refine wpAny_IfExp ?_) | (dsimp only; first | ((with_reducible show wpAny _ _ (execs (Stmt.Assign [Expr.Name _ _] _ _ :: _) _) _ _ _); refine rAs ?_) | with_reducible refine rRet ?_ | with_reducible refine rIf ?_ | with_reducible refine wpAny_BinOp ?_ | with_reducible refine rI ?_ | with_reducible refine rS ?_ | ((with_reducible show wpAny _ _ (eval (Expr.Name _ _) _) _ _ _); refine nL (by assumption) rfl ?_) | ((with_reducible show wpAny _ _ (storeName _ _ _) _ _ _); refine rSt (by assumption) ?_; intro _ _) | ((with_reducible show wpAny _ _ (isTrue (Expr.Compare _ [_] [_] _) _ _) _ _ _); refine wpAny_isTrue_Compare1 ?_) | with_reducible refine wpAny_truthy_bool ?_ | with_reducible refine rEq ?_ | ((with_reducible show wpAny _ _ (eval (Expr.Call _ _ [] _) _) _ _ _); refine Call_ ?_) | ((with_reducible show wpAny _ _ (spliced (backTo _ (starEach (_ :: _) _))) _ _ _); refine spliced_more ?_) | ((with_reducible show wpAny _ _ (spliced (backTo _ (starEach [] _))) _ _ _); refine spliced_none ?_) | with_reducible refine wpAny_IfExp ?_))
          refine iteF (by decide) ?_
          refine rNil ?_
          refine rAuN ?_
          refine nl F3 mt ?_
          refine nL F3 rfl ?_
          refine rISt (by show Str.length "" + 1 ≤ _; decide) ?_
          intro t4 tk4
          refine rStS F3 ?_
          intro h5 S5 F5
          have X5 : LX w g0 h5 a (wd' ++ rest) := xs X3 S5 F5.kp
          refine rForL ?_
          refine nL F5 mf ?_
          refine rIterCI (F5.at 0 rfl) ?_
          refine rLoop (fun i s => ∃ w1 w2 h' tk' mm tt, FS g0 hp [a.ldx, a.l] hp.objs.size h' mm [(it, CIt b tk3), (b, methodObj (.ref aRC) (.ref a.lx))] ∧ s = ⟨h', gn, dr, tk', os⟩ ∧ mm "self" = some (.ref a.lx) ∧ mm "fiter" = some (.ref it) ∧
            i = w2.length ∧ c :: wd' = w1 ++ w2 ∧ mm "token" = some (.str (tx w1) tt) ∧ LX w g0 h' a (w2 ++ rest)) ?_ wd'.length ?_
          · rintro J2 hJ2 i s ⟨w1, w2, h', tk', mm, tt, F', rfl, ms, mf, rfl, hw, mt, X'⟩
            have hl2 : (w2 ++ rest).length ≤ 2 ^ 20 := by
              have e1 : (w1 ++ w2).length = (c :: wd').length := by rw [hw]
              have e2 := hlen
              rw [List.length_append] at e1 e2 ⊢
              (clear hb hit hitlo hbit hlen hrest; omega)
            have hl1 : w1.length ≤ 2 ^ 20 := by
              have e1 : (w1 ++ w2).length = (c :: wd').length := by rw [hw]
              have e2 := hlen
              rw [List.length_append] at e1 e2
              (clear hb hit hitlo hbit hlen hrest hl2; omega)
            refine turn (rm1.le (by decide)) F' X' hl2 ?_ ?_
            · intro j2 tk2 hcs V2 Z2
              dsimp only
              obtain ⟨rfl, rfl⟩ := List.append_eq_nil_iff.mp hcs
              refine rNil ?_
              refine rNil ?_
              refine ⟨1, by decide, hJ _ _ ⟨j2, tk2, mm, tt, V2, rfl, ms, mf, .inr ⟨rfl, rfl, ?_, Z2⟩⟩⟩
              rw [hw, List.append_nil]
              exact mt
            · intro j2 tk2 c2 r t2 hcs V2 Z2
              dsimp only
              refine rStS V2 ?_
              intro j3 U3 V3
              have Z3 : LX w g0 j3 a r := xs Z2 U3 V3.kp
              obtain ⟨t1, t2, t3, t4, ln, u1, u3, ed⟩ := Z3.ldx
              refine rIf ?_
              refine wpAny_isTrue_Compare1 ?_
              refine nL V3 rfl ?_
              refine rAt ?_
              refine nL V3 ms ?_
              refine rGA G V3.ok Z3.lx ed (fo_ws ..) rfl ?_
              refine rIn ?_
              cases w2 with
              | nil =>
                rcases hrest with rfl | ⟨_, s, r', rfl, hs⟩
                · cases hcs
                cases hcs
                rw [s_ws hs]
                repeat (first | (first | ((with_reducible show wpAny _ _ (execs (Stmt.Assign [Expr.Name _ _] _ _ :: _) _) _ _ _); refine rAs ?_) | with_reducible refine rRet ?_ | with_reducible refine rIf ?_ | with_reducible refine wpAny_BinOp ?_ | with_reducible refine rI ?_ | with_reducible refine rS ?_ | ((with_reducible show wpAny _ _ (eval (Expr.Name _ _) _) _ _ _); refine nL (by assumption) rfl ?_) | ((with_reducible show wpAny _ _ (storeName _ _ _) _ _ _); refine rSt (by assumption) ?_; intro _ _) | ((with_reducible show wpAny _ _ (isTrue (Expr.Compare _ [_] [_] _) _ _) _ _ _); refine wpAny_isTrue_Compare1 ?_) | with_reducible refine wpAny_truthy_bool ?_ | with_reducible refine rEq ?_ | ((with_reducible show wpAny _ _ (eval (Expr.Call _ _ [] _) _) _ _ _); refine Call_ ?_) | ((with_reducible show wpAny _ _ (spliced (backTo _ (starEach (_ :: _) _))) _ _ _); refine spliced_more ?_) | ((with_reducible show wpAny _ _ (spliced (backTo _ (starEach [] _))) _ _ _); refine spliced_none ?_) | with_reducible refine wpAny_IfExp ?_) | (dsimp only; first | ((with_reducible show wpAny _ _ (execs (Stmt.Assign [Expr.Name _ _] _ _ :: _) _) _ _ _); refine rAs ?_) | with_reducible refine rRet ?_ | with_reducible refine rIf ?_ | with_reducible refine wpAny_BinOp ?_ | with_reducible refine rI ?_ | with_reducible refine rS ?_ | ((with_reducible show wpAny _ _ (eval (Expr.Name _ _) _) _ _ _); refine nL (by assumption) rfl ?_) | ((with_reducible show wpAny _ _ (storeName _ _ _) _ _ _); refine rSt (by assumption) ?_; intro _ _) | ((with_reducible show wpAny _ _ (isTrue (Expr.Compare _ [_] [_] _) _ _) _ _ _); refine wpAny_isTrue_Compare1 ?_) | with_reducible refine wpAny_truthy_bool ?_ | with_reducible refine rEq ?_ | ((with_reducible show wpAny _ _ (eval (Expr.Call _ _ [] _) _) _ _ _); refine Call_ ?_) | ((with_reducible show wpAny _ _ (spliced (backTo _ (starEach (_ :: _) _))) _ _ _); refine spliced_more ?_) | ((with_reducible show wpAny _ _ (spliced (backTo _ (starEach [] _))) _ _ _); refine spliced_none ?_) | with_reducible refine wpAny_IfExp ?_))
                refine iteT rfl ?_
                refine rRet ?_
                refine nL V3 mt ?_
                rw [List.append_nil] at hw
                rw [hw] at h
                have q := fun tks => h tt j3 tks V3.ok V3.kp Z3
                exact q _
              | cons c2' w2' =>
                cases hcs
                have hc2 := hwd c2 (by rw [hw]; simp)
                rw [l_ws hc2]
                repeat (first | (first | ((with_reducible show wpAny _ _ (execs (Stmt.Assign [Expr.Name _ _] _ _ :: _) _) _ _ _); refine rAs ?_) | with_reducible refine rRet ?_ | with_reducible refine rIf ?_ | with_reducible refine wpAny_BinOp ?_ | with_reducible refine rI ?_ | with_reducible refine rS ?_ | ((with_reducible show wpAny _ _ (eval (Expr.Name _ _) _) _ _ _); refine nL (by assumption) rfl ?_) | ((with_reducible show wpAny _ _ (storeName _ _ _) _ _ _); refine rSt (by assumption) ?_; intro _ _) | ((with_reducible show wpAny _ _ (isTrue (Expr.Compare _ [_] [_] _) _ _) _ _ _); refine wpAny_isTrue_Compare1 ?_) | with_reducible refine wpAny_truthy_bool ?_ | with_reducible refine rEq ?_ | ((with_reducible show wpAny _ _ (eval (Expr.Call _ _ [] _) _) _ _ _); refine Call_ ?_) | ((with_reducible show wpAny _ _ (spliced (backTo _ (starEach (_ :: _) _))) _ _ _); refine spliced_more ?_) | ((with_reducible show wpAny _ _ (spliced (backTo _ (starEach [] _))) _ _ _); refine spliced_none ?_) | with_reducible refine wpAny_IfExp ?_) | (dsimp only; first | ((with_reducible show wpAny _ _ (execs (Stmt.Assign [Expr.Name _ _] _ _ :: _) _) _ _ _); refine rAs ?_) | with_reducible refine rRet ?_ | with_reducible refine rIf ?_ | with_reducible refine wpAny_BinOp ?_ | with_reducible refine rI ?_ | with_reducible refine rS ?_ | ((with_reducible show wpAny _ _ (eval (Expr.Name _ _) _) _ _ _); refine nL (by assumption) rfl ?_) | ((with_reducible show wpAny _ _ (storeName _ _ _) _ _ _); refine rSt (by assumption) ?_; intro _ _) | ((with_reducible show wpAny _ _ (isTrue (Expr.Compare _ [_] [_] _) _ _) _ _ _); refine wpAny_isTrue_Compare1 ?_) | with_reducible refine wpAny_truthy_bool ?_ | with_reducible refine rEq ?_ | ((with_reducible show wpAny _ _ (eval (Expr.Call _ _ [] _) _) _ _ _); refine Call_ ?_) | ((with_reducible show wpAny _ _ (spliced (backTo _ (starEach (_ :: _) _))) _ _ _); refine spliced_more ?_) | ((with_reducible show wpAny _ _ (spliced (backTo _ (starEach [] _))) _ _ _); refine spliced_none ?_) | with_reducible refine wpAny_IfExp ?_))
                refine iteF (by decide) ?_
                repeat (first | (first | ((with_reducible show wpAny _ _ (execs (Stmt.Assign [Expr.Name _ _] _ _ :: _) _) _ _ _); refine rAs ?_) | with_reducible refine rRet ?_ | with_reducible refine rIf ?_ | with_reducible refine wpAny_BinOp ?_ | with_reducible refine rI ?_ | with_reducible refine rS ?_ | ((with_reducible show wpAny _ _ (eval (Expr.Name _ _) _) _ _ _); refine nL (by assumption) rfl ?_) | ((with_reducible show wpAny _ _ (storeName _ _ _) _ _ _); refine rSt (by assumption) ?_; intro _ _) | ((with_reducible show wpAny _ _ (isTrue (Expr.Compare _ [_] [_] _) _ _) _ _ _); refine wpAny_isTrue_Compare1 ?_) | with_reducible refine wpAny_truthy_bool ?_ | with_reducible refine rEq ?_ | ((with_reducible show wpAny _ _ (eval (Expr.Call _ _ [] _) _) _ _ _); refine Call_ ?_) | ((with_reducible show wpAny _ _ (spliced (backTo _ (starEach (_ :: _) _))) _ _ _); refine spliced_more ?_) | ((with_reducible show wpAny _ _ (spliced (backTo _ (starEach [] _))) _ _ _); refine spliced_none ?_) | with_reducible refine wpAny_IfExp ?_) | (dsimp only; first | ((with_reducible show wpAny _ _ (execs (Stmt.Assign [Expr.Name _ _] _ _ :: _) _) _ _ _); refine rAs ?_) | with_reducible refine rRet ?_ | with_reducible refine rIf ?_ | with_reducible refine wpAny_BinOp ?_ | with_reducible refine rI ?_ | with_reducible refine rS ?_ | ((with_reducible show wpAny _ _ (eval (Expr.Name _ _) _) _ _ _); refine nL (by assumption) rfl ?_) | ((with_reducible show wpAny _ _ (storeName _ _ _) _ _ _); refine rSt (by assumption) ?_; intro _ _) | ((with_reducible show wpAny _ _ (isTrue (Expr.Compare _ [_] [_] _) _ _) _ _ _); refine wpAny_isTrue_Compare1 ?_) | with_reducible refine wpAny_truthy_bool ?_ | with_reducible refine rEq ?_ | ((with_reducible show wpAny _ _ (eval (Expr.Call _ _ [] _) _) _ _ _); refine Call_ ?_) | ((with_reducible show wpAny _ _ (spliced (backTo _ (starEach (_ :: _) _))) _ _ _); refine spliced_more ?_) | ((with_reducible show wpAny _ _ (spliced (backTo _ (starEach [] _))) _ _ _); refine spliced_none ?_) | with_reducible refine wpAny_IfExp ?_))
                refine rEqS ?_
                rw [l_bs hc2]
                repeat (first | (first | ((with_reducible show wpAny _ _ (execs (Stmt.Assign [Expr.Name _ _] _ _ :: _) _) _ _ _); refine rAs ?_) | with_reducible refine rRet ?_ | with_reducible refine rIf ?_ | with_reducible refine wpAny_BinOp ?_ | with_reducible refine rI ?_ | with_reducible refine rS ?_ | ((with_reducible show wpAny _ _ (eval (Expr.Name _ _) _) _ _ _); refine nL (by assumption) rfl ?_) | ((with_reducible show wpAny _ _ (storeName _ _ _) _ _ _); refine rSt (by assumption) ?_; intro _ _) | ((with_reducible show wpAny _ _ (isTrue (Expr.Compare _ [_] [_] _) _ _) _ _ _); refine wpAny_isTrue_Compare1 ?_) | with_reducible refine wpAny_truthy_bool ?_ | with_reducible refine rEq ?_ | ((with_reducible show wpAny _ _ (eval (Expr.Call _ _ [] _) _) _ _ _); refine Call_ ?_) | ((with_reducible show wpAny _ _ (spliced (backTo _ (starEach (_ :: _) _))) _ _ _); refine spliced_more ?_) | ((with_reducible show wpAny _ _ (spliced (backTo _ (starEach [] _))) _ _ _); refine spliced_none ?_) | with_reducible refine wpAny_IfExp ?_) | (dsimp only; first | ((with_reducible show wpAny _ _ (execs (Stmt.Assign [Expr.Name _ _] _ _ :: _) _) _ _ _); refine rAs ?_) | with_reducible refine rRet ?_ | with_reducible refine rIf ?_ | with_reducible refine wpAny_BinOp ?_ | with_reducible refine rI ?_ | with_reducible refine rS ?_ | ((with_reducible show wpAny _ _ (eval (Expr.Name _ _) _) _ _ _); refine nL (by assumption) rfl ?_) | ((with_reducible show wpAny _ _ (storeName _ _ _) _ _ _); refine rSt (by assumption) ?_; intro _ _) | ((with_reducible show wpAny _ _ (isTrue (Expr.Compare _ [_] [_] _) _ _) _ _ _); refine wpAny_isTrue_Compare1 ?_) | with_reducible refine wpAny_truthy_bool ?_ | with_reducible refine rEq ?_ | ((with_reducible show wpAny _ _ (eval (Expr.Call _ _ [] _) _) _ _ _); refine Call_ ?_) | ((with_reducible show wpAny _ _ (spliced (backTo _ (starEach (_ :: _) _))) _ _ _); refine spliced_more ?_) | ((with_reducible show wpAny _ _ (spliced (backTo _ (starEach [] _))) _ _ _); refine spliced_none ?_) | with_reducible refine wpAny_IfExp ?_))
                refine iteF (by decide) ?_
                refine rNil ?_
                refine rNil ?_
                refine rAuN ?_
                refine nl V3 mt ?_
                refine nL V3 rfl ?_
                refine rISt (by show w1.toArray.size + 1 ≤ _; simp; (clear hb hit hitlo hbit hlen hrest hl2; omega)) ?_
                intro t6 tk6
                rw [tx_app]
                refine rStS V3 ?_
                intro h7 S7 F7
                have X7 := xs Z3 S7 F7.kp
                refine rNil ?_
                exact ⟨w2'.length, by simp, hJ2 _ _ ⟨w1 ++ [c2], w2', _, _, _, _, F7, rfl, ms, mf, rfl, by rw [hw, List.append_assoc]; rfl, rfl, X7⟩⟩
          · exact ⟨[c], wd', _, _, _, _, F5, rfl, ms, mf, rfl, rfl, rfl, X5⟩
    · refine rNextCE rm1.hd (F'.at 0 rfl) ?_
      intro h2 E2
      have k2 : ∀ b o, h'.get? b = some o → h2.get? b = some o := fun b o e => E2 b o (Nat.ne_of_lt (Heap.lt_size e)) e
      have F2 := F'.extX k2
      subst hr
      refine rRet ?_
      refine nL F2 mt ?_
      have Y2 : LX w g0 h2 a [] := by
        refine X.step k F2.kp ?_ ?_
        · obtain ⟨t1, t2, t3, t4, ln, u1, u3, e⟩ := X'.ldx
          exact ⟨t1, t2, t3, t4, ln, u1, u3, k2 _ _ e⟩
        · obtain ⟨vs, n, e, c⟩ := X'.l
          exact ⟨vs, n, k2 _ _ e, c⟩
      have q := fun tks => h tt h2 tks F2.ok F2.kp Y2
      exact q _
  · exact ⟨_, _, _, _, F5', rfl, rfl, rfl, .inl ⟨rfl, rfl, X5⟩⟩
end Mine

namespace Mine
theorem FS.out {g0 g h h' : Heap} {T : List Addr} {L : Addr} {m : Str → Option Value} {nw : List (Addr × Obj)} (F : FS g0 g T L h m nw) (S : Heap.SameBut L h h') : OK g0 h' ∧ Kp T g h' ∧ ∀ p ∈ nw, h'.get? p.1 = some p.2 :=
  ⟨F.ok.step (Nat.le_trans F.g0g F.le) (ns_nc F.ns) (same_sz S) (fun b o hb e => (S.2 b hb).trans e), F.kpT (.inl F.le) (same_sz S) (fun b o hb e => (S.2 b hb).trans e), fun p hp => (S.2 _ (F.nL p hp)).trans (F.nws p hp)⟩
section
variable {w : World} {A : Around} {E : Value → Shared → Prop} {Q : Value → Shared → Prop} {t u : Tok} {hp h' : Heap} {gn : Array GenState} {dr : Drawn} {tk : Nat} {os : OsState} {pos : Pos} {k : Nat} {env : Env}
  {g0 g : Heap} {T : List Addr} {L : Addr} {m : Str → Option Value} {nw : List (Addr × Obj)} {mg mb : Str → Option Value}
theorem rLC {elt iter : Expr} {x : Str} {px : Pos} {scope : Scope} {cl : List (Str × Addr)}
    (h : wpAny (model PP w) A (eval iter env) (fun xv s₁ => wpAny (model PP w) A (pyIter xv) (fun it s₂ =>
      wpAny (model PP w) A (newList []) (fun acc s₃ => wpAny (model PP w) A (newFunctionEnv scope env.globals cl [] env.qual none .none (some env)) (fun cenv s₄ =>
        codeAny (model PP w) A (.compStart (.ListComp elt [⟨.Name x px, iter, [], 0⟩] scope pos) 0 it acc { cenv with scope := relabel scope env }) (compPost (model PP w) A E none Q acc cenv.locals) s₄) E s₃) E s₂) E s₁) E ⟨hp, gn, dr, tk, os⟩)
    (hclos : closureFor scope env = pure cl := by rfl) (hkind : scope.kind = .function := by rfl)
    (hnames : (scope.names.all fun y => !(y.2 == .local) || scope.names.lookup y.1 == some .local) = true := by rfl)
    (hs : ∀ x, foldedSetIterable iter env x = pure x := by intro _; rfl) : wpAny (model PP w) A (eval (.ListComp elt [⟨.Name x px, iter, [], 0⟩] scope pos) env) Q E ⟨hp, gn, dr, tk, os⟩ := by
  rw [eval_ListComp]
  refine wpAny_comprehension_free (use := none) rfl hs hclos hkind (fun y hy hl => ?_) h
  have := List.all_eq_true.mp hnames y hy
  rw [hl] at this
  simpa using this
theorem rLCb {elt iter : Expr} {x : Str} {px : Pos} {scope : Scope} {cl : List (Str × Addr)} {it : Addr} (k2 : OK g0 hp) (I : Nat → Shared → Prop) (n : Nat)
    (self : ∀ {Q : Value → Shared → Prop} {E : Value → Shared → Prop} {s : Shared}, I n s → Q (.ref it) s → wpAny (model PP w) A (pyIter (.ref it)) Q E s)
    (init : ∀ h3 tk3, FS g0 hp T (hp.objs.size + 1) h3 (fun _ => none) [(hp.objs.size, LO [] 0)] → (∀ b o, hp.get? b = some o → h3.get? b = some o) → I n ⟨h3, gn, dr, tk3, os⟩)
    (turn : ∀ n s, I n s → wpAny (model PP w) A (pyNext (.ref it)) (fun r s₁ => match r with
      | none => ∃ m, s₁.heap.Ns (hp.objs.size + 1) m ∧ ∀ h', Heap.SameBut (hp.objs.size + 1) s₁.heap h' → Q (.ref hp.objs.size) { s₁ with heap := h' }
      | some v => wpAny (model PP w) A (storeName (compEnvC scope cl (hp.objs.size + 1) env) x v) (fun _ s₂ => wpAny (model PP w) A (eval elt (compEnvC scope cl (hp.objs.size + 1) env)) (fun y s₃ =>
          wpAny (model PP w) A (call (.builtin "list.append") [.ref hp.objs.size, y]) (fun _ s₄ => ∃ m, m < n ∧ I m s₄) (fun _ _ => False) s₃) (fun _ _ => False) s₂) (fun _ _ => False) s₁) (fun _ _ => False) s)
    (hcell : (scope.names.all fun y => !(y.2 == .cell)) = true := by rfl) (hkind : scope.kind = .function := by rfl) :
    wpAny (model PP w) A (newList []) (fun acc s₃ => wpAny (model PP w) A (newFunctionEnv scope env.globals cl [] env.qual none .none (some env)) (fun cenv s₄ =>
        codeAny (model PP w) A (.compStart (.ListComp elt [⟨.Name x px, iter, [], 0⟩] scope pos) 0 (.ref it) acc { cenv with scope := relabel scope env }) (compPost (model PP w) A E none Q acc cenv.locals) s₄) E s₃) E ⟨hp, gn, dr, tk, os⟩ := by
  have hcell' : ∀ y ∈ scope.names, y.2 ≠ .cell := fun y hy => by have q := List.all_eq_true.mp hcell y hy; simpa using q
  refine wpAny_newObj_type (wpAny_newFunctionEnv hcell' (by intro y hy; simp at hy) (fun h₁ hns₁ hsb₁ => ?_) hkind)
  dsimp only at hns₁ hsb₁ ⊢
  have hC : (hp.push { cls := .type "list", dict := none, data := .seq ([] : List Value).toArray }).objs.size = hp.objs.size + 1 := Heap.size_push ..
  rw [hC] at hns₁ hsb₁ ⊢
  have hs1 : hp.objs.size + 1 < h₁.objs.size := ns_lt hns₁
  have kk : ∀ b o, hp.get? b = some o → h₁.get? b = some o := fun b o e => (hsb₁.2 b (Nat.ne_of_lt (Nat.lt_succ_of_lt (Heap.lt_size e)))).trans (Heap.get?_push_of_some _ (Heap.get?_push_of_some _ e))
  have eD : h₁.get? hp.objs.size = some (LO [] 0) := (hsb₁.2 _ (Nat.ne_of_lt (Nat.lt_succ_self _))).trans (Heap.get?_push_of_some _ (Heap.get?_push_size _ rfl))
  have F : FS g0 hp T (hp.objs.size + 1) h₁ (fun _ => none) [] := ⟨k2.ext (by (clear hC; omega)) kk, ⟨by (clear hC; omega), fun b o e _ _ => kk b o e⟩, k2.sz, hns₁, by (clear hC hs1; omega), fun _ q => (nomatch q), fun _ q => (nomatch q), List.nodup_nil, fun _ q => (nomatch q)⟩
  have I0 := init h₁ tk (F.add eD (Nat.le_refl _) (fun _ q => (nomatch q)) (Nat.ne_of_lt (Nat.lt_succ_self _))) kk
  have loop : codeAny (model PP w) A (.compLoop (.ListComp elt [⟨.Name x px, iter, [], 0⟩] scope pos) 0 (.ref it) (.ref hp.objs.size) (compEnvC scope cl (hp.objs.size + 1) env)) (compPost (model PP w) A E none Q (.ref hp.objs.size) (hp.objs.size + 1)) ⟨h₁, gn, dr, tk, os⟩ := by
    refine codeAny_compLoop_list I (fun n s hI => ?_) n I0
    refine wpAny_mono (turn n s hI) (fun r s₁ hr => ?_) (fun _ _ z => z.elim)
    cases r with
    | none => exact hr
    | some v => exact wpAny_assign_Name (wpAny_mono hr (fun _ s₂ h₂ => wpAny_mono h₂ (fun y s₃ h₃ => wpAny_mono h₃ (fun _ _ z => z) fun _ _ z => z.elim) fun _ _ z => z.elim) fun _ _ z => z.elim)
  exact codeAny_compStart_list loop (self I0 loop)
end
end Mine

namespace Mine
theorem look_rev_init : typeLookup (.type "reversed") "__init__" = pure (some (.builtin "object.__init__")) := by rw [typeLookup_type, builtinLookup_eq_fast]; kernel_rfl
theorem slot_rev_init : Slot "reversed" "__init__" "object.__init__" :=
  .of (owner := "object") (n := "__init__") look_rev_init (by decide +kernel) (by decide +kernel) (by decide +kernel)
    (by first | exact .inl (by decide +kernel) | exact .inr (by decide +kernel)) (by rw [isSubtype_type]; kernel_rfl)
theorem called_reversed : TypeCalled "reversed" "reversed.__new__" "object.__init__" := ⟨by decide +kernel, PySem.F.create_reversed, ⟨_, _, PySem.F.mro_reversed⟩, PySem.F.made_reversed, PySem.F.plain_reversed_new, PySem.F.sub_reversed_self, slot_rev_init⟩
theorem str_no_rev : typeLookup (.type "str") "__reversed__" = pure none := by rw [typeLookup_type, builtinLookup_eq_fast]; kernel_rfl
theorem owner_rev : Manifest.owners.lookup (String.ofList ['d', 'e', 's', 'r', 'e', 'v', 'e', 'r'].reverse) = some Manifest.sig_reversed := by kernel_rfl
theorem slot_rev_next : Slot "reversed" "__next__" "reversed.__next__" :=
  .of (owner := "reversed") (n := "__next__") (by rw [typeLookup_type, builtinLookup_eq_fast]; kernel_rfl) (by decide +kernel) (by decide +kernel) (by decide +kernel)
    (by first | exact .inl (by decide +kernel) | exact .inr (by decide +kernel)) (by rw [isSubtype_type]; kernel_rfl)
theorem entry_rev_next : entryFor table "reversed.__next__" = some Builtin.«reversed.__next__» := entryFor_of_tree (by kernel_rfl)
theorem args_rev_next (a : Value) : argsOk "reversed.__next__" ⟨[a], []⟩ := by
  unfold argsOk; rw [signature?_of (id := "reversed.__next__") (n := ['_', '_', 't', 'x', 'e', 'n', '_', '_']) (o := ['d', 'e', 's', 'r', 'e', 'v', 'e', 'r']) (by kernel_rfl) owner_rev]; kernel_rfl
theorem slot_rev_iter : Slot "reversed" "__iter__" "reversed.__iter__" :=
  .of (owner := "reversed") (n := "__iter__") (by rw [typeLookup_type, builtinLookup_eq_fast]; kernel_rfl) (by decide +kernel) (by decide +kernel) (by decide +kernel)
    (by first | exact .inl (by decide +kernel) | exact .inr (by decide +kernel)) (by rw [isSubtype_type]; kernel_rfl)
theorem args_rev_iter (a : Value) : argsOk "reversed.__iter__" ⟨[a], []⟩ := by
  unfold argsOk; rw [signature?_of (id := "reversed.__iter__") (n := ['_', '_', 'r', 'e', 't', 'i', '_', '_']) (o := ['d', 'e', 's', 'r', 'e', 'v', 'e', 'r']) (by kernel_rfl) owner_rev]; kernel_rfl
theorem entry_rev_iter : entryFor table "reversed.__iter__" = some Builtin.«dict_keyiterator.__iter__» :=
  entryFor_alias (id' := "dict_keyiterator.__iter__") (by kernel_rfl) (by first | rfl | decide +kernel | (unfold String.splitOn; simp +decide [String.splitOnAux])) (by decide +kernel) (by kernel_rfl)
abbrev revS (x : Str) (t : Tok) (i : Int) : Obj := { cls := .type "reversed", data := .fields #[.str x t, rawInt i] }
end Mine

namespace Mine
theorem str_item : typeLookup (.type "str") "__getitem__" = pure (some (.builtin "str.__getitem__")) := by rw [typeLookup_type, builtinLookup_eq_fast]; kernel_rfl
theorem sub_str_dict : isSubtype (.type "str") (.type "dict") = pure false := by rw [isSubtype_type]; kernel_rfl
theorem meets_rev_str (x : Str) (t : Tok) (hx : x.length ≤ 2 ^ 20) :
    Meets (Builtin.«reversed.__new__» ⟨[.type "reversed", .str x t], []⟩) (fun _ R s => ∀ tk', R (.ok (.ret (.ref s.heap.objs.size))) { s with heap := s.heap.push (revS x t ((x.length : Int) - 1)), toks := tk' }) := by
  refine .of_wp fun prog w A R s h => ?_
  unfold Builtin.«reversed.__new__»
  refine wpAny_bind (wpAny_of_eq (newClass_reversed _) ?_)
  try dsimp only
  refine wpAny_bind (wpAny_of_eq (a := ()) (by first | rfl | kernel_rfl) ?_)
  refine wpAny_bind (wpAny_of_eq (a := ()) (by first | rfl | kernel_rfl) ?_)
  try dsimp only
  refine wpAny_bind (wpAny_specialOf (typeIs_str s x t) str_no_rev ?_)
  try dsimp only
  show wpAny _ _ ((isInstance (.str x t) (.type "dict") >>= _) >>= _) _ _ _
  refine wpAny_bind (wpAny_bind (wpAny_isInstance (T := "str") (b := false) (typeIs_str s x t) sub_str_dict ?_))
  rw [if_neg (by decide)]
  refine wpAny_bind (wpAny_specialOf (typeIs_str s x t) str_item ?_)
  dsimp only
  rw [if_pos (by decide)]
  refine wpAny_pure ?_
  rw [if_neg (by decide)]
  refine wpAny_bind ?_
  refine PyProof.Rows.len_str (by omega) ?_
  refine wpAny_bind (wpAny_of_eq (a := some (x.length : Int)) (by rfl) ?_)
  show wpAny _ _ (newObj (.type "reversed") (.fields #[.str x t, rawInt ((x.length : Int) - 1)]) >>= _) _ _ _
  refine wpAny_bind ?_
  refine wpAny_newObj_type ?_
  exact wpAny_pure ⟨_, rfl, h _⟩
section
variable {w : World} {A : Around} {E : Value → Shared → Prop} {Q : Value → Shared → Prop} {t u : Tok} {hp h' : Heap} {gn : Array GenState} {dr : Drawn} {tk : Nat} {os : OsState} {pos : Pos} {k : Nat} {env : Env}
theorem rRevSt {x : Str} (hx : x.length ≤ 2 ^ 20) (h : ∀ tk', Q (.ref hp.objs.size) ⟨hp.push (revS x t ((x.length : Int) - 1)), gn, dr, tk', os⟩) : wpAny (model PP w) A (call (.type "reversed") [.str x t]) Q E ⟨hp, gn, dr, tk, os⟩ :=
  callType_new called_reversed (by decide) (PySem.F.typeCall_reversed_1 _) (PySem.F.newCall_reversed_1 _) (fun obj => PySem.F.args_object_init_2 obj _) PySem.F.entry_reversed_new (meets_rev_str x t hx) fun tk' => ⟨⟨_, Heap.get?_push_size _ rfl, rfl⟩, h tk'⟩
theorem rIterRS {it : Addr} {x : Str} {i : Int} {o : Obj} (hi : hp.get? it = some o) (hc : o.cls = .type "reversed") (h : Q (.ref it) ⟨hp, gn, dr, tk, os⟩) : wpAny (model PP w) A (pyIter (.ref it)) Q E ⟨hp, gn, dr, tk, os⟩ := by
  have ty : Shared.TypeIs ⟨hp, gn, dr, tk, os⟩ (.ref it) "reversed" := ⟨_, hi, hc⟩
  refine wpAny_pyIter_slot ty slot_rev_iter (wpAny_call_entry slot_rev_iter ty entry_rev_iter ?_ (args_rev_iter _))
  show wpAny _ _ (ret (.ref it)) _ _ _
  exact wpAny_pure ⟨_, rfl, "reversed", _, ty, slot_rev_next.lookup, h⟩
theorem rNextRS {it : Addr} {x : Str} {i : Nat} {c : Nat} {Q : Option Value → Shared → Prop} (hi : hp.get? it = some (revS x t i)) (hc : x.cps[i]? = some c) (hx : x.length ≤ 2 ^ 20)
    (h : ∀ h' u tk', Heap.SameBut it hp h' → h'.get? it = some (revS x t ((i : Int) - 1)) → Q (some (.str (chr c) u)) ⟨h', gn, dr, tk', os⟩) : wpAny (model PP w) A (pyNext (.ref it)) Q E ⟨hp, gn, dr, tk, os⟩ := by
  have ty : Shared.TypeIs ⟨hp, gn, dr, tk, os⟩ (.ref it) "reversed" := ⟨_, hi, rfl⟩
  have hlt : i < x.cps.size := (Array.getElem?_eq_some_iff.mp hc).1
  have hlen : x.length = x.cps.size := rfl
  unfold pyNext
  refine wpAny_bind (wpAny_attempt (wpAny_callSpecial?_slot (name := Str.ofString "__next__") ty slot_rev_next
    (wpAny_call_entry slot_rev_next ty entry_rev_next ?_ (args_rev_next _))))
  unfold Builtin.«reversed.__next__»
  refine wpAny_bind (wpAny_of_eq (a := (Value.ref it, [])) rfl ?_)
  try dsimp only
  refine wpAny_bind (wpAny_field hi rfl (x := .str x t) rfl ?_)
  refine wpAny_bind (wpAny_field hi rfl (x := rawInt i) rfl ?_)
  show wpAny _ _ (if (i : Int) < 0 then _ else _) _ _ _
  rw [if_neg (by (clear hx hlt hlen; omega))]
  refine wpAny_bind (wpAny_specialOf (typeIs_str _ x t) str_item ?_)
  rw [if_neg (by decide)]
  refine wpAny_bind ?_
  refine wpAny_mkInt ?_
  refine wpAny_bind (wpAny_attempt ?_)
  refine PyProof.Rows.getItem_str (c := c) ?_ ?_ ?_
  · have : ¬ ((i : Int) < -(2 ^ 63 : Int)) := by (clear hx hlt hlen; omega)
    have h2 : ¬ ((i : Int) ≥ 2 ^ 63) := by (clear this; omega)
    simp only [this, h2, decide_false, Bool.or_false]
  · have e : seqIndex? (i : Int) x.length = some i := by
      have h2 : (i : Int) < x.length := by (clear hx; omega)
      have h1 : ¬ (i : Int) < 0 := by (clear hx hlt hlen h2; omega)
      unfold seqIndex?
      simp [h1, h2]
    rw [e]
    exact hc
  · dsimp only
    refine wpAny_bind (wpAny_field hi rfl (x := rawInt i) rfl ?_)
    show wpAny _ _ (setField (.ref it) 1 (rawInt ((i : Int) - 1)) >>= _) _ _ _
    refine wpAny_bind (wpAny_setField_rec hi (by simp) fun h1 e1 S1 => ?_)
    exact wpAny_pure ⟨_, rfl, wpAny_pure (h _ _ _ S1 e1)⟩
theorem rNextRE {it : Addr} {x : Str} {Q : Option Value → Shared → Prop} (hA : A.handled = none) (hi : hp.get? it = some (revS x t (-1))) (h : ∀ h', Heap.ExtBut it hp h' → Q none ⟨h', gn, dr, tk, os⟩) :
    wpAny (model PP w) A (pyNext (.ref it)) Q E ⟨hp, gn, dr, tk, os⟩ := by
  have ty : Shared.TypeIs ⟨hp, gn, dr, tk, os⟩ (.ref it) "reversed" := ⟨_, hi, rfl⟩
  unfold pyNext
  refine wpAny_bind (wpAny_attempt (wpAny_callSpecial?_slot (name := Str.ofString "__next__") ty slot_rev_next
    (wpAny_call_entry slot_rev_next ty entry_rev_next ?_ (args_rev_next _))))
  unfold Builtin.«reversed.__next__»
  refine wpAny_bind (wpAny_of_eq (a := (Value.ref it, [])) rfl ?_)
  try dsimp only
  refine wpAny_bind (wpAny_field hi rfl (x := .str x t) rfl ?_)
  refine wpAny_bind (wpAny_field hi rfl (x := rawInt (-1)) rfl ?_)
  show wpAny _ _ (if (-1 : Int) < 0 then _ else _) _ _ _
  rw [if_pos (by decide)]
  refine wpAny_bind (wpAny_rule ?_)
  refine wpAny_bind ?_
  refine wpAny_bind (wpAny_setField_rec hi (by simp) fun h1 e1 S1 => ?_)
  refine wpAny_setField_rec e1 (by simp) fun h2 e2 S2 => ?_
  refine wpAny_bind ?_
  show wpAny _ _ (newExc (.type "StopIteration") [] >>= _) _ _ _
  refine wpAny_bind ?_
  simp only [newExc, newTuple]
  refine wpAny_bind (wpAny_newObj_type ?_ (by size_fits))
  refine wpAny_bind (m := firstArgMember _ _) (wpAny_of_eq (a := Value.none) (by first | rfl | (simp only [firstArgMember]; rfl)) ?_)
  refine wpAny_newObj_type ?_ (by size_fits)
  simp only [raiseNew]
  refine wpAny_bind (wpAny_handled ?_)
  first | rw [show A.in1.handled = none from hA] | rw [hA]
  refine wpAny_bind (wpAny_pure (wpAny_throw ?_))
  refine wpAny_bind (wpAny_isInstance (T := "StopIteration") (b := true) ⟨_, Heap.get?_push_size _ rfl, rfl⟩ isSubtype_stop ?_)
  refine wpAny_pure (h _ (((?_ : Heap.ExtBut it hp h2).push _).push _))
  intro y o hy e
  exact (S2.2 y hy).trans ((S1.2 y hy).trans e)
end
end Mine

namespace Mine
def tj (s : Nat) : List (List Nat) → List Nat
  | [] => []
  | [w] => w
  | w :: v :: r => w ++ s :: tj s (v :: r)
theorem tj_cons (s : Nat) (w : List Nat) (ws : List (List Nat)) : ∃ rest, tj s (w :: ws) = w ++ rest ∧ rest.tail = tj s ws ∧ (rest = [] ∨ ∃ r, rest = s :: r) := by
  cases ws with
  | nil => exact ⟨[], by simp [tj], rfl, .inl rfl⟩
  | cons v r => exact ⟨s :: tj s (v :: r), rfl, rfl, .inr ⟨_, rfl⟩⟩
def wval (w : List Nat) : Int := dsum 4 (w.reverse.map fun (c : Nat) => (c : Int) - 65)
theorem l_find {c : Nat} (hc : Ltr c) : Txt.find "ABCDEFGHIJKLMNOP" (chr c) = (c : Int) - 65 := by
  have := ltr_ex (p := fun c => Txt.find "ABCDEFGHIJKLMNOP" (chr c) == (c : Int) - 65) (by decide +kernel) hc
  simpa using this
section
variable {w : World} {A : Around} {E : Value → Shared → Prop} {Q : Value → Shared → Prop} {t u : Tok} {hp h' : Heap} {gn : Array GenState} {dr : Drawn} {tk : Nat} {os : OsState} {pos : Pos} {k : Nat} {env : Env}
  {g0 g : Heap} {T : List Addr} {L : Addr} {m : Str → Option Value} {nw : List (Addr × Obj)} {mg mb : Str → Option Value}
theorem FS.callD {a : Addr} {o : Obj} (F : FS g0 g T L hp m ((a, o) :: nw)) (k : OK g0 h') (K : Kp [a] hp h') : FS g0 g T L h' m nw := by
  have nt : ∀ a, g0.objs.size ≤ a → a ∉ tabs := fun a ha q => absurd (F.ok.lt a q) (Nat.not_lt.mpr ha)
  have n1 : ∀ b, b ≠ a → b ∉ [a] := fun b hb q => hb (List.mem_singleton.mp q)
  have hm : (a, o) ∈ (a, o) :: nw := .head _
  refine ⟨k, ⟨Nat.le_trans F.kp.sz K.sz, fun b ob eb h1 h2 => K.kp _ _ (F.kp.kp b ob eb h1 h2) h1 (n1 b fun z => ?_)⟩, F.g0g, ?_, F.le, fun p hp => K.kp _ _ (F.nws p (.tail _ hp)) (nt _ (F.lo0 (.tail _ hp))) (n1 _ fun z => ?_), fun p hp => F.lo p (.tail _ hp), (List.nodup_cons.mp F.nd).2, fun p hp => F.nL p (.tail _ hp)⟩
  · subst z
    rcases F.lo _ hm with q | q
    · exact absurd (Heap.lt_size eb) (Nat.not_lt.mpr q)
    · exact h2 q.1
  · obtain ⟨oL, es, ep, eL, r⟩ := F.ns
    exact ⟨oL, es, ep, K.kp _ _ eL (nt _ (Nat.le_trans F.g0g F.le)) (n1 _ (Ne.symm (F.nL _ hm))), r⟩
  · exact (List.nodup_cons.mp F.nd).1 (List.mem_map.mpr ⟨p, hp, z⟩)
theorem rFindM {x : Str} {pl : Sem Bool} {QM : Value × List Value → Shared → Prop} (h : QM (.builtin "str.find", [.str x t]) ⟨hp, gn, dr, tk, os⟩) : wpAny (model PP w) A (getMethod (.str x t) "find" pl) QM E ⟨hp, gn, dr, tk, os⟩ := GM.find h
theorem rFind {x y : Str} (h : Q (.int (Txt.find x y) tk) ⟨hp, gn, dr, tk + 1, os⟩) : wpAny (model PP w) A (call (.builtin "str.find") [.str x t, .str y u]) Q E ⟨hp, gn, dr, tk, os⟩ :=
  call_gives PySem.F.slot_str_find (typeIs_str _ _ _) PySem.F.entry_str_find (PySem.F.args_str_find_2 _ _) (gives_str_find x y t u) h
theorem rTrS {x : Str} {Q : Bool → Shared → Prop} (hx : x.length ≤ 2 ^ 20) (h : ∀ tk', Q ((x.length : Int) != 0) ⟨hp, gn, dr, tk', os⟩) : wpAny (model PP w) A (truthy (.str x t)) Q E ⟨hp, gn, dr, tk, os⟩ := by
  exact PySem.P.truthy_str (by omega) (h _)
theorem rCWf {a : Addr} {o : Obj} {fd : FuncData} {first : List Value} (h : (hp.get? a = some o ∧ o.data = .func fd) ∧
      codeAny (model PP w) A (.call (.ref a) ⟨first, []⟩) (fun r s' => match r with | .ok (.ret v) => Q v s' | .ok _ => False | .error e => E e s') ⟨hp, gn, dr, tk, os⟩) :
    wpAny (model PP w) A (callWith pos (.ref a) first (backTo pos (starEach [] env)) []) Q E ⟨hp, gn, dr, tk, os⟩ := callWith_meth0 h.1.2 h.1.1 (wpAny_call h.2)
end
end Mine

namespace Mine
theorem rAppendS {w : World} {A : Around} {E : Value → Shared → Prop} {Q : Value → Shared → Prop} {hp : Heap} {gn : Array GenState} {dr : Drawn} {tk : Nat} {os : OsState} {g0 g : Heap} {T : List Addr} {L : Addr} {m : Str → Option Value} {nw : List (Addr × Obj)}
    (F : FS g0 g T L hp m nw) (i : Nat) {l : Addr} {vs : List Value} {n : Nat} {x : Value} (hi : nw[i]? = some (l, LO vs n)) (hs : vs.length ≤ 2 ^ 20)
    (h : ∀ h', Heap.SameBut l hp h' → FS g0 g T L h' m (nw.set i (l, LO (vs ++ [x]) (n + 1))) → Q .none ⟨h', gn, dr, tk, os⟩) : wpAny (model PP w) A (call (.builtin "list.append") [.ref l, x]) Q E ⟨hp, gn, dr, tk, os⟩ := by
  refine call_meets PySem.slot_list_append ⟨_, F.at i hi, rfl⟩ PySem.entry_list_append (PySem.args_list_append _ _) (AutoListH.list_append_list_val_0 l vs.toArray n x (by simp [sizeLine]; omega)) ⟨F.at i hi, h _ (Heap.SameBut.update ..) (F.set' i hi (list_nc rfl) ?_ rfl)⟩
  simp [Obj.mapSeq]
theorem LX.ltAll {w : World} {g0 hp : Heap} {a : LA} {cs : List Nat} (X : LX w g0 hp a cs) : ∀ b ∈ [a.lx, a.ldx, a.pb, a.sx, a.sdx, a.f, a.l, a.c], b < hp.objs.size := by
  obtain ⟨t1, t2, t3, t4, ln, u1, u3, ed⟩ := X.ldx
  obtain ⟨vs0, n0, el, ca⟩ := X.l
  obtain ⟨s1, s2, s3, s4, s5, sl, sf, sw, sp, es⟩ := X.sdx
  obtain ⟨oc, ec, dc⟩ := X.c
  intro b hb
  simp only [List.mem_cons, List.not_mem_nil, or_false] at hb
  rcases hb with rfl | rfl | rfl | rfl | rfl | rfl | rfl | rfl
  · exact Heap.lt_size X.lx
  · exact Heap.lt_size ed
  · exact Heap.lt_size X.pb
  · exact Heap.lt_size X.sx
  · exact Heap.lt_size es
  · exact Heap.lt_size X.f
  · exact Heap.lt_size el
  · exact Heap.lt_size ec
theorem LX.sto {w : World} {g0 hp h' : Heap} {a : LA} {cs : List Nat} {L : Addr} (X : LX w g0 hp a cs) (S : Heap.SameBut L hp h') (hL : ∀ b ∈ [a.lx, a.ldx, a.pb, a.sx, a.sdx, a.f, a.l, a.c], @Ne Nat b L) (hn : ∀ o, hp.get? L = some o → NC o) : LX w g0 h' a cs := by
  have up : ∀ b o, b ∈ [a.lx, a.ldx, a.pb, a.sx, a.sdx, a.f, a.l, a.c] → hp.get? b = some o → h'.get? b = some o := fun b o hb e => (S.2 b (hL b hb)).trans e
  obtain ⟨t1, t2, t3, t4, ln, u1, u3, ed⟩ := X.ldx
  obtain ⟨vs0, n0, el, ca⟩ := X.l
  obtain ⟨s1, s2, s3, s4, s5, sl, sf, sw, sp, es⟩ := X.sdx
  obtain ⟨oc, ec, dc⟩ := X.c
  exact ⟨up _ _ (by simp) X.lx, ⟨t1, t2, t3, t4, ln, u1, u3, up _ _ (by simp) ed⟩, up _ _ (by simp) X.pb, up _ _ (by simp) X.sx, ⟨s1, s2, s3, s4, s5, sl, sf, sw, sp, up _ _ (by simp) es⟩, up _ _ (by simp) X.f, X.nx,
    ⟨oc, up _ _ (by simp) ec, dc⟩, CodeRec.same X.cc (by decide) S hn, X.cct, ⟨vs0, n0, up _ _ (by simp) el, ca⟩, X.lpb, X.lo⟩
theorem FS.callF {g0 g h h' : Heap} {T S : List Addr} {L : Addr} {m : Str → Option Value} {nw : List (Addr × Obj)} (F : FS g0 g T L h m nw) (k : OK g0 h') (K : Kp S h h') (hS : ∀ t ∈ S, g.objs.size ≤ t ∧ @Ne Nat t L) (hn : ∀ p ∈ nw, p.1 ∉ S) : FS g0 g T L h' m nw := by
  have nt : ∀ a, g0.objs.size ≤ a → a ∉ tabs := fun a ha q => absurd (F.ok.lt a q) (Nat.not_lt.mpr ha)
  refine ⟨k, ⟨Nat.le_trans F.kp.sz K.sz, fun b o e h1 h2 => K.kp _ _ (F.kp.kp b o e h1 h2) h1 (fun q => absurd (Heap.lt_size e) (Nat.not_lt.mpr (hS b q).1))⟩, F.g0g, ?_, F.le, fun p hp => K.kp _ _ (F.nws p hp) (nt _ (F.lo0 hp)) (hn p hp), F.lo, F.nd, F.nL⟩
  obtain ⟨oL, es, ep, eL, r⟩ := F.ns
  exact ⟨oL, es, ep, K.kp _ _ eL (nt _ (Nat.le_trans F.g0g F.le)) (fun q => (hS _ q).2 rfl), r⟩
theorem c_lr {w : World} {mg mb : Str → Option Value} {g0 : Heap} (G : Gd w mg mb g0) {A : Around} {R : Result → Shared → Prop} {hp : Heap} {gn : Array GenState} {dr : Drawn} {tk0 : Nat} {os : OsState} (k : OK g0 hp) {x : Str} {t0 : Tok} {s : Nat} {ws : List (List Nat)}
  (rm : Rm A 100) (hx : x.cps.toList = tj s ws) (hs : Spc s) (hsz : x.cps.size ≤ 2 ^ 20) (hws : ∀ v ∈ ws, v ≠ [] ∧ v.length ≤ 64 ∧ ∀ c ∈ v, Ltr c) (hn : ws.length ≤ 1000)
 (h : ∀ l vs n h' tks, OK g0 h' → Kp [] hp h' → hp.objs.size ≤ l → h'.get? l = some (LO vs n) → IntsAre vs (ws.map wval) → R (.ok (.ret (.ref l))) ⟨h', gn, dr, tks, os⟩) :
  codeAny (model PP w) A (.call (.ref aLR) ⟨[.str x t0], []⟩) R ⟨hp, gn, dr, tk0, os⟩ := by
  refine ent (T := []) (n := 99) (binds := [("text", .str x t0)]) G k rm (k.at0 G rfl) rfl (k.code G rfl) rfl rfl rfl rfl rfl rfl rfl ?_
  intro h1 tk1 F rm1 kk
  repeat (first | (first | ((with_reducible show wpAny _ _ (execs (Stmt.Assign [Expr.Name _ _] _ _ :: _) _) _ _ _); refine rAs ?_) | with_reducible refine rRet ?_ | with_reducible refine rIf ?_ | with_reducible refine wpAny_BinOp ?_ | with_reducible refine rI ?_ | with_reducible refine rS ?_ | ((with_reducible show wpAny _ _ (eval (Expr.Name _ _) _) _ _ _); refine nL (by assumption) rfl ?_) | ((with_reducible show wpAny _ _ (storeName _ _ _) _ _ _); refine rSt (by assumption) ?_; intro _ _) | ((with_reducible show wpAny _ _ (isTrue (Expr.Compare _ [_] [_] _) _ _) _ _ _); refine wpAny_isTrue_Compare1 ?_) | with_reducible refine wpAny_truthy_bool ?_ | with_reducible refine rEq ?_ | ((with_reducible show wpAny _ _ (eval (Expr.Call _ _ [] _) _) _ _ _); refine Call_ ?_) | ((with_reducible show wpAny _ _ (spliced (backTo _ (starEach (_ :: _) _))) _ _ _); refine spliced_more ?_) | ((with_reducible show wpAny _ _ (spliced (backTo _ (starEach [] _))) _ _ _); refine spliced_none ?_) | with_reducible refine wpAny_IfExp ?_) | (dsimp only; first | ((with_reducible show wpAny _ _ (execs (Stmt.Assign [Expr.Name _ _] _ _ :: _) _) _ _ _); refine rAs ?_) | with_reducible refine rRet ?_ | with_reducible refine rIf ?_ | with_reducible refine wpAny_BinOp ?_ | with_reducible refine rI ?_ | with_reducible refine rS ?_ | ((with_reducible show wpAny _ _ (eval (Expr.Name _ _) _) _ _ _); refine nL (by assumption) rfl ?_) | ((with_reducible show wpAny _ _ (storeName _ _ _) _ _ _); refine rSt (by assumption) ?_; intro _ _) | ((with_reducible show wpAny _ _ (isTrue (Expr.Compare _ [_] [_] _) _ _) _ _ _); refine wpAny_isTrue_Compare1 ?_) | with_reducible refine wpAny_truthy_bool ?_ | with_reducible refine rEq ?_ | ((with_reducible show wpAny _ _ (eval (Expr.Call _ _ [] _) _) _ _ _); refine Call_ ?_) | ((with_reducible show wpAny _ _ (spliced (backTo _ (starEach (_ :: _) _))) _ _ _); refine spliced_more ?_) | ((with_reducible show wpAny _ _ (spliced (backTo _ (starEach [] _))) _ _ _); refine spliced_none ?_) | with_reducible refine wpAny_IfExp ?_))
  refine nG G F rfl ?_
  refine rCW (F.ok.at0 G rfl) rfl ?_
  repeat (first | (first | ((with_reducible show wpAny _ _ (execs (Stmt.Assign [Expr.Name _ _] _ _ :: _) _) _ _ _); refine rAs ?_) | with_reducible refine rRet ?_ | with_reducible refine rIf ?_ | with_reducible refine wpAny_BinOp ?_ | with_reducible refine rI ?_ | with_reducible refine rS ?_ | ((with_reducible show wpAny _ _ (eval (Expr.Name _ _) _) _ _ _); refine nL (by assumption) rfl ?_) | ((with_reducible show wpAny _ _ (storeName _ _ _) _ _ _); refine rSt (by assumption) ?_; intro _ _) | ((with_reducible show wpAny _ _ (isTrue (Expr.Compare _ [_] [_] _) _ _) _ _ _); refine wpAny_isTrue_Compare1 ?_) | with_reducible refine wpAny_truthy_bool ?_ | with_reducible refine rEq ?_ | ((with_reducible show wpAny _ _ (eval (Expr.Call _ _ [] _) _) _ _ _); refine Call_ ?_) | ((with_reducible show wpAny _ _ (spliced (backTo _ (starEach (_ :: _) _))) _ _ _); refine spliced_more ?_) | ((with_reducible show wpAny _ _ (spliced (backTo _ (starEach [] _))) _ _ _); refine spliced_none ?_) | with_reducible refine wpAny_IfExp ?_) | (dsimp only; first | ((with_reducible show wpAny _ _ (execs (Stmt.Assign [Expr.Name _ _] _ _ :: _) _) _ _ _); refine rAs ?_) | with_reducible refine rRet ?_ | with_reducible refine rIf ?_ | with_reducible refine wpAny_BinOp ?_ | with_reducible refine rI ?_ | with_reducible refine rS ?_ | ((with_reducible show wpAny _ _ (eval (Expr.Name _ _) _) _ _ _); refine nL (by assumption) rfl ?_) | ((with_reducible show wpAny _ _ (storeName _ _ _) _ _ _); refine rSt (by assumption) ?_; intro _ _) | ((with_reducible show wpAny _ _ (isTrue (Expr.Compare _ [_] [_] _) _ _) _ _ _); refine wpAny_isTrue_Compare1 ?_) | with_reducible refine wpAny_truthy_bool ?_ | with_reducible refine rEq ?_ | ((with_reducible show wpAny _ _ (eval (Expr.Call _ _ [] _) _) _ _ _); refine Call_ ?_) | ((with_reducible show wpAny _ _ (spliced (backTo _ (starEach (_ :: _) _))) _ _ _); refine spliced_more ?_) | ((with_reducible show wpAny _ _ (spliced (backTo _ (starEach [] _))) _ _ _); refine spliced_none ?_) | with_reducible refine wpAny_IfExp ?_))
  refine ⟨F.ok.at0 G rfl, ?_⟩
  refine c_lx G F.ok (rm1.le (by decide)) hsz ?_
  intro a h2 tk2 k2 K2 X2 hlo2
  rw [hx] at X2
  have F2 := F.call k2 K2
  have hL : ∀ b ∈ [a.lx, a.ldx, a.pb, a.sx, a.sdx, a.f, a.l, a.c], hp.objs.size ≤ b ∧ @Ne Nat b hp.objs.size := fun b hb => by
    have z2 : hp.objs.size < h1.objs.size := ns_lt F.ns
    have z3 : h1.objs.size ≤ b := hlo2 b hb
    exact ⟨Nat.le_of_lt (Nat.lt_of_lt_of_le z2 z3), Nat.ne_of_gt (Nat.lt_of_lt_of_le z2 z3)⟩
  have hLn : ∀ b ∈ [a.lx, a.ldx, a.pb, a.sx, a.sdx, a.f, a.l, a.c], @Ne Nat b hp.objs.size := fun b hb => (hL b hb).2
  have hS : ∀ t ∈ [a.ldx, a.l], hp.objs.size ≤ t ∧ @Ne Nat t hp.objs.size := fun b hb => hL b (by
    rcases List.mem_cons.mp hb with rfl | hb
    · simp
    · cases List.mem_singleton.mp hb; simp)
  refine rStS F2 ?_
  intro h3 S3 F3
  have X3 := X2.sto S3 hLn (ns_nc F2.ns)
  repeat (first | (first | ((with_reducible show wpAny _ _ (execs (Stmt.Assign [Expr.Name _ _] _ _ :: _) _) _ _ _); refine rAs ?_) | with_reducible refine rRet ?_ | with_reducible refine rIf ?_ | with_reducible refine wpAny_BinOp ?_ | with_reducible refine rI ?_ | with_reducible refine rS ?_ | ((with_reducible show wpAny _ _ (eval (Expr.Name _ _) _) _ _ _); refine nL (by assumption) rfl ?_) | ((with_reducible show wpAny _ _ (storeName _ _ _) _ _ _); refine rSt (by assumption) ?_; intro _ _) | ((with_reducible show wpAny _ _ (isTrue (Expr.Compare _ [_] [_] _) _ _) _ _ _); refine wpAny_isTrue_Compare1 ?_) | with_reducible refine wpAny_truthy_bool ?_ | with_reducible refine rEq ?_ | ((with_reducible show wpAny _ _ (eval (Expr.Call _ _ [] _) _) _ _ _); refine Call_ ?_) | ((with_reducible show wpAny _ _ (spliced (backTo _ (starEach (_ :: _) _))) _ _ _); refine spliced_more ?_) | ((with_reducible show wpAny _ _ (spliced (backTo _ (starEach [] _))) _ _ _); refine spliced_none ?_) | with_reducible refine wpAny_IfExp ?_) | (dsimp only; first | ((with_reducible show wpAny _ _ (execs (Stmt.Assign [Expr.Name _ _] _ _ :: _) _) _ _ _); refine rAs ?_) | with_reducible refine rRet ?_ | with_reducible refine rIf ?_ | with_reducible refine wpAny_BinOp ?_ | with_reducible refine rI ?_ | with_reducible refine rS ?_ | ((with_reducible show wpAny _ _ (eval (Expr.Name _ _) _) _ _ _); refine nL (by assumption) rfl ?_) | ((with_reducible show wpAny _ _ (storeName _ _ _) _ _ _); refine rSt (by assumption) ?_; intro _ _) | ((with_reducible show wpAny _ _ (isTrue (Expr.Compare _ [_] [_] _) _ _) _ _ _); refine wpAny_isTrue_Compare1 ?_) | with_reducible refine wpAny_truthy_bool ?_ | with_reducible refine rEq ?_ | ((with_reducible show wpAny _ _ (eval (Expr.Call _ _ [] _) _) _ _ _); refine Call_ ?_) | ((with_reducible show wpAny _ _ (spliced (backTo _ (starEach (_ :: _) _))) _ _ _); refine spliced_more ?_) | ((with_reducible show wpAny _ _ (spliced (backTo _ (starEach [] _))) _ _ _); refine spliced_none ?_) | with_reducible refine wpAny_IfExp ?_))
  refine rList ?_
  repeat (first | (first | ((with_reducible show wpAny _ _ (execs (Stmt.Assign [Expr.Name _ _] _ _ :: _) _) _ _ _); refine rAs ?_) | with_reducible refine rRet ?_ | with_reducible refine rIf ?_ | with_reducible refine wpAny_BinOp ?_ | with_reducible refine rI ?_ | with_reducible refine rS ?_ | ((with_reducible show wpAny _ _ (eval (Expr.Name _ _) _) _ _ _); refine nL (by assumption) rfl ?_) | ((with_reducible show wpAny _ _ (storeName _ _ _) _ _ _); refine rSt (by assumption) ?_; intro _ _) | ((with_reducible show wpAny _ _ (isTrue (Expr.Compare _ [_] [_] _) _ _) _ _ _); refine wpAny_isTrue_Compare1 ?_) | with_reducible refine wpAny_truthy_bool ?_ | with_reducible refine rEq ?_ | ((with_reducible show wpAny _ _ (eval (Expr.Call _ _ [] _) _) _ _ _); refine Call_ ?_) | ((with_reducible show wpAny _ _ (spliced (backTo _ (starEach (_ :: _) _))) _ _ _); refine spliced_more ?_) | ((with_reducible show wpAny _ _ (spliced (backTo _ (starEach [] _))) _ _ _); refine spliced_none ?_) | with_reducible refine wpAny_IfExp ?_) | (dsimp only; first | ((with_reducible show wpAny _ _ (execs (Stmt.Assign [Expr.Name _ _] _ _ :: _) _) _ _ _); refine rAs ?_) | with_reducible refine rRet ?_ | with_reducible refine rIf ?_ | with_reducible refine wpAny_BinOp ?_ | with_reducible refine rI ?_ | with_reducible refine rS ?_ | ((with_reducible show wpAny _ _ (eval (Expr.Name _ _) _) _ _ _); refine nL (by assumption) rfl ?_) | ((with_reducible show wpAny _ _ (storeName _ _ _) _ _ _); refine rSt (by assumption) ?_; intro _ _) | ((with_reducible show wpAny _ _ (isTrue (Expr.Compare _ [_] [_] _) _ _) _ _ _); refine wpAny_isTrue_Compare1 ?_) | with_reducible refine wpAny_truthy_bool ?_ | with_reducible refine rEq ?_ | ((with_reducible show wpAny _ _ (eval (Expr.Call _ _ [] _) _) _ _ _); refine Call_ ?_) | ((with_reducible show wpAny _ _ (spliced (backTo _ (starEach (_ :: _) _))) _ _ _); refine spliced_more ?_) | ((with_reducible show wpAny _ _ (spliced (backTo _ (starEach [] _))) _ _ _); refine spliced_none ?_) | with_reducible refine wpAny_IfExp ?_))
  refine rNewL ?_ (by simp [sizeLine])
  have F4 := F3.psh (LO [] 0)
  have X4 := X3.keep F3.ok (h' := h3.push (LO [] 0)) ⟨by rw [Heap.size_push]; (clear hsz hn; omega), fun b o e _ _ => Heap.get?_push_of_some _ e⟩
  generalize hlq : h3.objs.size = lq at *
  refine rStS F4 ?_
  intro h5 S5 F5
  have X5 := X4.sto S5 hLn (ns_nc F4.ns)
  have hlqn : ∀ b ∈ [a.lx, a.ldx, a.pb, a.sx, a.sdx, a.f, a.l, a.c], @Ne Nat b lq := fun b hb => Nat.ne_of_lt (hlq ▸ X3.ltAll b hb)
  have hlqS : lq ∉ [a.ldx, a.l] := by
    obtain ⟨_, _, _, _, _, _, _, ed⟩ := X3.ldx
    obtain ⟨_, _, el, _⟩ := X3.l
    exact mem2 (Nat.ne_of_gt (hlq ▸ Heap.lt_size ed)) (Nat.ne_of_gt (hlq ▸ Heap.lt_size el))
  have tlen : ∀ (vs : List (List Nat)), (∀ v ∈ vs, v.length ≤ 64) → (tj s vs).length ≤ 65 * vs.length := by
    intro vs
    induction vs with
    | nil => intro _; simp [tj]
    | cons v vs ih =>
      intro hv
      have h1 := hv v (.head _)
      have h2 := ih fun y hy => hv y (.tail _ hy)
      cases vs with
      | nil => simp [tj] at *; (clear hsz hn hlq hlo2 hL hLn hS hlqn hlqS hv; omega)
      | cons v2 r => simp [tj] at *; (clear hsz hn hlq hlo2 hL hLn hS hlqn hlqS hv; omega)
  -- a token read
  have tok : ∀ {A' : Around} {R' : Result → Shared → Prop} {h' : Heap} {mm : Str → Option Value} {nw : List (Addr × Obj)} {tk' : Nat} {vs : List (List Nat)}, Rm A' 9 → FS g0 hp [] hp.objs.size h' mm nw → (∀ p ∈ nw, p.1 ∉ [a.ldx, a.l]) →
      LX w g0 h' a (tj s vs) → (∀ v ∈ vs, v ≠ [] ∧ v.length ≤ 64 ∧ ∀ c ∈ v, Ltr c) → vs.length ≤ 1000 →
      (∀ t h2 tks, FS g0 hp [] hp.objs.size h2 mm nw → LX w g0 h2 a (tj s vs.tail) → R' (.ok (.ret (.str (tx (vs.headD [])) t))) ⟨h2, gn, dr, tks, os⟩) →
      codeAny (model PP w) A' (.call (.ref aGT) ⟨[.ref a.lx], []⟩) R' ⟨h', gn, dr, tk', os⟩ := by
    intro A' R' h' mm nw tk' vs rm' F' hnw X' hv hvl q
    have tl := tlen vs fun v hv' => (hv v hv').2.1
    cases vs with
    | nil =>
      refine c_gt G F'.ok (wd := []) (rest := []) rm' X' (by simp) (by simp) (.inl rfl) ?_
      intro t h2 tks k2 K2 X2
      exact q t h2 tks (F'.callF k2 K2 hS hnw) X2
    | cons v vs =>
      obtain ⟨rest, e1, e2, e3⟩ := tj_cons s v vs
      rw [e1] at X' tl
      refine c_gt G F'.ok (wd := v) (rest := rest) rm' X' (by simp at tl hvl ⊢; (clear hsz hn hlq hlqS e3; omega)) (hv v (.head _)).2.2 (e3.imp id fun ⟨r, e⟩ => ⟨(hv v (.head _)).1, s, r, e, hs⟩) ?_
      intro t h2 tks k2 K2 X2
      rw [e2] at X2
      exact q t h2 tks (F'.callF k2 K2 hS hnw) X2
  have gtc : ∀ {A' : Around} {E' : Value → Shared → Prop} {Q' : Value → Shared → Prop} {h' : Heap} {mm : Str → Option Value} {nw : List (Addr × Obj)} {tk' : Nat} {vs : List (List Nat)} {pl : Sem Bool} {pos : Pos} {env : Env}, Rm A' 9 → FS g0 hp [] hp.objs.size h' mm nw → (∀ p ∈ nw, p.1 ∉ [a.ldx, a.l]) →
      LX w g0 h' a (tj s vs) → (∀ v ∈ vs, v ≠ [] ∧ v.length ≤ 64 ∧ ∀ c ∈ v, Ltr c) → vs.length ≤ 1000 →
      (∀ t h2 tks, FS g0 hp [] hp.objs.size h2 mm nw → LX w g0 h2 a (tj s vs.tail) → Q' (.str (tx (vs.headD [])) t) ⟨h2, gn, dr, tks, os⟩) →
      wpAny (model PP w) A' (getMethod (.ref a.lx) "get_token" pl) (fun fx s₂ => wpAny (model PP w) A' (callWith pos fx.1 fx.2 (backTo pos (starEach [] env)) []) Q' E' s₂) E' ⟨h', gn, dr, tk', os⟩ := by
    intro A' E' Q' h' mm nw tk' vs pl pos env rm' F' hnw X' hv hvl q
    obtain ⟨t1, t2, t3, t4, ln, u1, u3, ed⟩ := X'.ldx
    refine rGMf G F'.ok X'.lx ed (q_gt w) (q_gtf w) (sh_gt ..) ?_
    refine rCWf ⟨⟨F'.ok.at0 G rfl, rfl⟩, ?_⟩
    exact tok rm' F' hnw X' hv hvl q
  repeat (first | (first | ((with_reducible show wpAny _ _ (execs (Stmt.Assign [Expr.Name _ _] _ _ :: _) _) _ _ _); refine rAs ?_) | with_reducible refine rRet ?_ | with_reducible refine rIf ?_ | with_reducible refine wpAny_BinOp ?_ | with_reducible refine rI ?_ | with_reducible refine rS ?_ | ((with_reducible show wpAny _ _ (eval (Expr.Name _ _) _) _ _ _); refine nL (by assumption) rfl ?_) | ((with_reducible show wpAny _ _ (storeName _ _ _) _ _ _); refine rSt (by assumption) ?_; intro _ _) | ((with_reducible show wpAny _ _ (isTrue (Expr.Compare _ [_] [_] _) _ _) _ _ _); refine wpAny_isTrue_Compare1 ?_) | with_reducible refine wpAny_truthy_bool ?_ | with_reducible refine rEq ?_ | ((with_reducible show wpAny _ _ (eval (Expr.Call _ _ [] _) _) _ _ _); refine Call_ ?_) | ((with_reducible show wpAny _ _ (spliced (backTo _ (starEach (_ :: _) _))) _ _ _); refine spliced_more ?_) | ((with_reducible show wpAny _ _ (spliced (backTo _ (starEach [] _))) _ _ _); refine spliced_none ?_) | with_reducible refine wpAny_IfExp ?_) | (dsimp only; first | ((with_reducible show wpAny _ _ (execs (Stmt.Assign [Expr.Name _ _] _ _ :: _) _) _ _ _); refine rAs ?_) | with_reducible refine rRet ?_ | with_reducible refine rIf ?_ | with_reducible refine wpAny_BinOp ?_ | with_reducible refine rI ?_ | with_reducible refine rS ?_ | ((with_reducible show wpAny _ _ (eval (Expr.Name _ _) _) _ _ _); refine nL (by assumption) rfl ?_) | ((with_reducible show wpAny _ _ (storeName _ _ _) _ _ _); refine rSt (by assumption) ?_; intro _ _) | ((with_reducible show wpAny _ _ (isTrue (Expr.Compare _ [_] [_] _) _ _) _ _ _); refine wpAny_isTrue_Compare1 ?_) | with_reducible refine wpAny_truthy_bool ?_ | with_reducible refine rEq ?_ | ((with_reducible show wpAny _ _ (eval (Expr.Call _ _ [] _) _) _ _ _); refine Call_ ?_) | ((with_reducible show wpAny _ _ (spliced (backTo _ (starEach (_ :: _) _))) _ _ _); refine spliced_more ?_) | ((with_reducible show wpAny _ _ (spliced (backTo _ (starEach [] _))) _ _ _); refine spliced_none ?_) | with_reducible refine wpAny_IfExp ?_))
  refine rM ?_
  refine nL F5 rfl ?_
  refine gtc (rm1.le (by decide)) F5 (fun p hp' => by cases List.mem_singleton.mp hp'; exact hlqS) X5 hws hn ?_
  intro t6 h6 tk6 F6 X6
  refine rStS F6 ?_
  intro h7 S7 F7
  have X7 := X6.sto S7 hLn (ns_nc F6.ns)
  refine rWhile (fun i sh => ∃ done todo h' tk' mm vs n tt, sh = ⟨h', gn, dr, tk', os⟩ ∧ FS g0 hp [] hp.objs.size h' mm [(lq, LO vs n)] ∧ ws = done ++ todo ∧ i = todo.length ∧ IntsAre vs (done.map wval) ∧ LX w g0 h' a (tj s todo.tail) ∧
    mm "lexer" = some (.ref a.lx) ∧ mm "found" = some (.ref lq) ∧ mm "word" = some (.str (tx (todo.headD [])) tt)) ?_ ws.length ?_
  · rintro J hJ i sh ⟨done, todo, h', tk', mm, vs, n, tt, rfl, F', hdt, rfl, hin, X', ml, mf, mw⟩
    refine isTrue_plain ?_
    refine nL F' mw ?_
    have hnv := hin.length
    cases todo with
    | nil =>
      refine rTrS (by simp [tx, Str.length]) ?_
      intro tk8
      refine iteF (by simp [tx, Str.length]) ?_
      refine rRet ?_
      refine nL F' mf ?_
      rw [List.append_nil] at hdt
      subst hdt
      have q := fun tks => h lq vs n h' tks F'.ok F'.kp (F'.lo' (.head _)) (F'.at 0 rfl) hin
      exact q _
    | cons v todo =>
      have hv := hws v (by rw [hdt]; simp)
      have mw' : mm "word" = some (.str (tx v) tt) := mw
      refine rTrS (by show v.toArray.size ≤ _; simp; (clear hsz hn hlq hlqS hnv; omega)) ?_
      intro tk8
      refine iteT (by have : v.length ≠ 0 := fun q => hv.1 (List.eq_nil_of_length_eq_zero q)
                      show (((v.toArray.size : Nat) : Int) != 0) = true
                      simp; exact hv.1) ?_
      refine rEx ?_
      refine rM ?_
      refine nL F' mf ?_
      refine rAppM (F'.at 0 rfl) ?_
      refine rCM ?_
      refine spliced_more ?_
      refine Call_ ?_
      refine nG G F' rfl ?_
      refine rCW (F'.ok.at0 G rfl) rfl ?_
      refine spliced_more ?_
      refine rLC ?_
      refine Call_ ?_
      refine nB G F' rfl rfl ?_
      refine rCT ?_
      refine spliced_more ?_
      refine nL F' mw' ?_
      refine spliced_none ?_
      refine rRevSt (by show v.toArray.size ≤ _; simp; (clear hsz hn hlq hlqS hnv; omega)) ?_
      intro tk9
      have F9 := F'.psh (revS (tx v) tt (((tx v).length : Int) - 1))
      have X9 := X'.keep F'.ok (h' := h'.push (revS (tx v) tt (((tx v).length : Int) - 1))) ⟨by rw [Heap.size_push]; (clear hsz hn hlq hlqS hnv hv; omega), fun b o e _ _ => Heap.get?_push_of_some _ e⟩
      have hit0 : g0.objs.size ≤ h'.objs.size := F'.ok.sz
      generalize hit : h'.objs.size = it at *
      generalize hh9 : h'.push (revS (tx v) tt (((tx v).length : Int) - 1)) = h9 at *
      have hvlen : (tx v).length = v.length := by show v.toArray.size = _; simp
      refine rIterRS (x := tx v) (i := 0) (F9.at 0 rfl) rfl ?_
      refine rLCb (T := [it]) F9.ok (fun i sh => ∃ h' tk' mm vs2 n2, sh = ⟨h', gn, dr, tk', os⟩ ∧ FS g0 h9 [it] (h9.objs.size + 1) h' mm [(it, revS (tx v) tt ((i : Int) - 1)), (h9.objs.size, LO vs2 n2)] ∧
        IntsAre vs2 ((v.drop i).reverse.map fun (c : Nat) => (c : Int) - 65) ∧ i ≤ v.length) v.length ?_ ?_ ?_
      · rintro Q E sh ⟨j1, j2, j3, j4, j5, rfl, J, _⟩ q
        exact rIterRS (x := tx v) (i := 0) (J.at 0 rfl) rfl q
      · intro j1 j2 J kk
        have J2 := J.addT (kk _ _ (F9.at 0 rfl)) (by simp) hit0 (fun p hp' => by
          cases List.mem_singleton.mp hp'
          have : it < h9.objs.size := Heap.lt_size (F9.at 0 rfl)
          exact Nat.ne_of_gt this) (Nat.ne_of_lt (Nat.lt_succ_of_lt (Heap.lt_size (F9.at 0 rfl))))
        rw [hvlen] at J2
        exact ⟨j1, j2, _, [], 0, rfl, J2, by rw [List.drop_length]; exact .nil, Nat.le_refl _⟩
      · rintro i sh ⟨j1, j2, j3, vs2, n2, rfl, J, hi2, hile⟩
        cases i with
        | zero =>
          refine rNextRE (x := tx v) rm1.hd (J.at 0 rfl) ?_
          intro j4 E4
          have J4 := J.dropX (fun vs q t z e => by cases z; cases e) E4
          refine ⟨_, J4.ns, ?_⟩
          intro j5 S5
          obtain ⟨k5, K5, e5⟩ := J4.out S5
          have eD := e5 _ (.head _)
          have F10 := (F9.callD k5 K5).add eD (F9.gsz) (fun p hp' => by
            cases List.mem_singleton.mp hp'
            exact Nat.ne_of_lt (Heap.lt_size (F9.at 1 rfl))) (Nat.ne_of_gt (ns_lt F9.ns))
          have nit : ∀ b, b < it → b ∉ [it] := fun b hb q => Nat.ne_of_lt hb (List.mem_singleton.mp q)
          have X10 := X'.keep F'.ok (h' := j5) ⟨Nat.le_trans (by rw [← hh9, Heap.size_push]; (clear hsz hn hlq hlqS hnv hv hit hit0 hvlen hile; omega)) K5.sz, fun b o e q _ => K5.kp b o (by rw [← hh9]; exact Heap.get?_push_of_some _ e) q (nit b (hit ▸ Heap.lt_size e))⟩
          refine spliced_more ?_
          refine rI ?_
          refine spliced_none ?_
          refine ⟨F10.ok.at0 G rfl, ?_⟩
          rw [List.drop_zero] at hi2
          refine c_d2i G F10.ok (n := 4) (ds := v.reverse.map fun (c : Nat) => (c : Int) - 65) (rm1.le (by simp; (clear hsz hn hlq hlqS hnv hit hit0 hile; omega))) (LO.is eD) hi2 ?_ (by simp; (clear hsz hn hlq hlqS hnv hit hit0 hile; omega)) (by (clear hsz hn hlq hlqS hnv hv hit hit0 hvlen hile; omega)) (F10.ok.nt (F10.lo0 (.head _))) ?_
          · intro d hd
            obtain ⟨c, hc, rfl⟩ := List.mem_map.mp hd
            have := hv.2.2 c (List.mem_reverse.mp hc)
            have h1 := this.1
            have h2 := this.2
            refine ⟨by (clear hsz hn hlq hlqS hnv hv hit hit0 hvlen hile; omega), ?_⟩
            show (c : Int) - 65 < 16
            (clear hsz hn hlq hlqS hnv hv hit hit0 hvlen hile; omega)
          intro tk11 h11 tks11 k11 K11
          have F11 := F10.call k11 K11
          have X11 := X10.keep F10.ok K11
          dsimp only
          refine spliced_none ?_
          refine rAppendS F11 1 rfl (by rw [hnv, List.length_map]; have e := congrArg List.length hdt; rw [List.length_append] at e; (clear hsz hlq hlqS hnv hv hit hit0 hvlen hile; omega)) ?_
          intro h12 S12 F12
          have X12 := X11.sto S12 hlqn (fun o e => by rw [F11.at 1 rfl] at e; cases e; exact list_nc rfl)
          repeat (first | (first | ((with_reducible show wpAny _ _ (execs (Stmt.Assign [Expr.Name _ _] _ _ :: _) _) _ _ _); refine rAs ?_) | with_reducible refine rRet ?_ | with_reducible refine rIf ?_ | with_reducible refine wpAny_BinOp ?_ | with_reducible refine rI ?_ | with_reducible refine rS ?_ | ((with_reducible show wpAny _ _ (eval (Expr.Name _ _) _) _ _ _); refine nL (by assumption) rfl ?_) | ((with_reducible show wpAny _ _ (storeName _ _ _) _ _ _); refine rSt (by assumption) ?_; intro _ _) | ((with_reducible show wpAny _ _ (isTrue (Expr.Compare _ [_] [_] _) _ _) _ _ _); refine wpAny_isTrue_Compare1 ?_) | with_reducible refine wpAny_truthy_bool ?_ | with_reducible refine rEq ?_ | ((with_reducible show wpAny _ _ (eval (Expr.Call _ _ [] _) _) _ _ _); refine Call_ ?_) | ((with_reducible show wpAny _ _ (spliced (backTo _ (starEach (_ :: _) _))) _ _ _); refine spliced_more ?_) | ((with_reducible show wpAny _ _ (spliced (backTo _ (starEach [] _))) _ _ _); refine spliced_none ?_) | with_reducible refine wpAny_IfExp ?_) | (dsimp only; first | ((with_reducible show wpAny _ _ (execs (Stmt.Assign [Expr.Name _ _] _ _ :: _) _) _ _ _); refine rAs ?_) | with_reducible refine rRet ?_ | with_reducible refine rIf ?_ | with_reducible refine wpAny_BinOp ?_ | with_reducible refine rI ?_ | with_reducible refine rS ?_ | ((with_reducible show wpAny _ _ (eval (Expr.Name _ _) _) _ _ _); refine nL (by assumption) rfl ?_) | ((with_reducible show wpAny _ _ (storeName _ _ _) _ _ _); refine rSt (by assumption) ?_; intro _ _) | ((with_reducible show wpAny _ _ (isTrue (Expr.Compare _ [_] [_] _) _ _) _ _ _); refine wpAny_isTrue_Compare1 ?_) | with_reducible refine wpAny_truthy_bool ?_ | with_reducible refine rEq ?_ | ((with_reducible show wpAny _ _ (eval (Expr.Call _ _ [] _) _) _ _ _); refine Call_ ?_) | ((with_reducible show wpAny _ _ (spliced (backTo _ (starEach (_ :: _) _))) _ _ _); refine spliced_more ?_) | ((with_reducible show wpAny _ _ (spliced (backTo _ (starEach [] _))) _ _ _); refine spliced_none ?_) | with_reducible refine wpAny_IfExp ?_))
          refine rM ?_
          refine nL F12 ml ?_
          refine gtc (vs := todo) (rm1.le (by decide)) F12 (fun p hp' => ?_) X12 (fun y hy => hws y (by rw [hdt]; simp [hy])) (by have e := congrArg List.length hdt; rw [List.length_append, List.length_cons] at e; (clear hsz hlq hlqS hnv hv hit hit0 hvlen hile; omega)) ?_
          · rcases List.mem_cons.mp hp' with rfl | hp'
            · intro q
              have := X9.ltAll h9.objs.size (by
                have q' : h9.objs.size ∈ [a.ldx, a.l] := q
                rcases List.mem_cons.mp q' with q | q
                · rw [q]; simp
                · rw [List.mem_singleton.mp q]; simp)
              exact Nat.lt_irrefl _ this
            · cases List.mem_singleton.mp hp'
              exact hlqS
          intro t13 h13 tk13 F13 X13
          refine rStS F13 ?_
          intro h14 S14 F14
          have X14 := X13.sto S14 hLn (ns_nc F13.ns)
          refine rNil ?_
          refine ⟨todo.length, by simp, hJ _ _ ⟨done ++ [v], todo, h14, _, _, vs ++ [.int (wval v) tk11], n + 1, t13, rfl, F14.drop (List.sublist_cons_self _ _), by rw [hdt, List.append_assoc]; rfl, rfl, ?_, X14, ?_, ?_, ?_⟩⟩
          · rw [List.map_append]
            exact IntsAre.append hin (.cons _ _ .nil)
          · exact ml
          · exact mf
          · rfl
        | succ i =>
          have hil : i < v.length := hile
          refine rNextRS (x := tx v) (i := i) (c := v[i]) (by have := J.at 0 rfl; rw [this]; congr 3; simp) (by show v.toArray[i]? = _; simp [hil]) (by show v.toArray.size ≤ _; simp; (clear hsz hn hlq hlqS hnv hit hit0 hile hil; omega)) ?_
          intro j4 u4 tk4 S4 e4
          have J4 := J.updS 0 rfl (fun vs q t z e => by cases z; cases e) S4 e4
          refine rSt J4 ?_
          intro j5 J5
          refine rM ?_
          refine rS ?_
          refine rFindM ?_
          refine rCM ?_
          refine spliced_more ?_
          refine nL J5 rfl ?_
          refine spliced_none ?_
          refine rFind ?_
          rw [l_find (hv.2.2 _ (List.getElem_mem hil))]
          refine rAppend J5 1 rfl (by have := hi2.length; simp at this; (clear hsz hn hlq hlqS hnv hit hit0; omega)) ?_
          intro j6 J6
          refine ⟨i, Nat.lt_succ_self i, j6, _, _, _, _, rfl, J6, ?_, by (clear hsz hn hlq hlqS hnv hv hit hit0; omega)⟩
          rw [List.drop_eq_getElem_cons hil, List.reverse_cons, List.map_append]
          exact IntsAre.append hi2 (.cons _ _ .nil)
  · exact ⟨[], ws, _, _, _, [], 0, _, rfl, F7, rfl, rfl, .nil, X7, rfl, rfl, rfl⟩
end Mine

section
open PySem.Builtin
namespace Mine
theorem args_dec2 (a b : Value) : argsOk "bytes.decode" ⟨[a, b], []⟩ := by
  first | (unfold argsOk; kernel_rfl) | exact FB.args_bytes_decode_2 _ _
theorem dec_eq (c : UInt8) (cs : List UInt8) (t u : Tok) : «bytes.decode» ⟨[.bytes (c :: cs).toArray t, .str (PySem.Str.ofString "ascii") u], []⟩ =
    (mkStr (PySem.Str.ofString "utf-8") >>= fun _ => mkStr (PySem.Str.ofString "ascii") >>= fun e => mkStr (PySem.Str.ofString "bytes.decode") >>= fun d =>
    call (.builtin "_codecs.decode.text") [.bytes (c :: cs).toArray t, e, .none, d] >>= fun v => ret v) := by kernel_rfl
theorem road_a {b : Array UInt8} {id : String} : _codecs.decodeRoad id b (PySem.Str.ofString "ascii") none [] = (_codecs.runDecoder id _codecs.asciiDecoder none true b 0 [] >>= fun r => mkStr ⟨r.1⟩) := by kernel_rfl
end Mine
end

section
open PySem.Builtin
namespace Mine
theorem forIn_yields {α β : Type} (f : α → β → Sem (ForInStep β)) : ∀ (l : List α) (S : Nat → β), (∀ i x, l[i]? = some x → f x (S i) = pure (ForInStep.yield (S (i + 1)))) → forIn l (S 0) f = (pure (S l.length) : Sem β)
  | [], S, _ => rfl
  | x :: l, S, h => by
    rw [List.forIn_cons, h 0 x rfl, pure_bind]
    exact forIn_yields f l (fun i => S (i + 1)) fun i y e => h (i + 1) y (by simpa using e)
theorem run_ascii (id : String) (b : Array UInt8) (hb : ∀ c ∈ b.toList, c.toNat < 128) (hsz : b.size ≤ 2 ^ 20) : _codecs.runDecoder id _codecs.asciiDecoder none true b 0 [] = pure (b.map (·.toNat), b.size) := by
  unfold _codecs.runDecoder
  simp only [Std.Legacy.Range.forIn_eq_forIn_range']
  have hn : (List.range' 0 ([:b.size] : Std.Legacy.Range).size).length = b.size := by simp [Std.Legacy.Range.size]
  refine (congrArg (· >>= _) (forIn_yields _ (List.range' 0 ([:b.size] : Std.Legacy.Range).size) (fun i => (i, ((b.toList.take i).map (·.toNat)).toArray, ({ held := [] } : _codecs.Faults))) ?_)).trans ?_
  · intro i x hx
    have hi : i < b.size := by
      have := (List.getElem?_eq_some_iff.mp hx).1
      rwa [hn] at this
    have hout : ¬ (((b.toList.take i).map (·.toNat)).toArray.size > sizeLine) := by simp [sizeLine]; omega
    dsimp only
    rw [if_neg hout, if_neg (by (clear hsz hout; omega))]
    have hc : (b.getD i 0).toNat < 128 := hb _ (by
      have : b.getD i 0 = b[i] := by simp [Array.getD, hi]
      rw [this]; simp)
    have hf : _codecs.asciiDecoder.find true b i = .text [(b.getD i 0).toNat] (i + 1) := by
      show (if (b.getD i 0).toNat < 128 then _ else _) = _
      rw [if_pos hc]; rfl
    rw [hf]
    have e : (List.map (fun x : UInt8 => x.toNat) (List.take i b.toList)).toArray ++ [(b.getD i 0).toNat].toArray = (List.map (fun x : UInt8 => x.toNat) (List.take (i + 1) b.toList)).toArray := by
      have hi' : i < b.toList.length := by simpa using hi
      rw [List.take_succ_eq_append_getElem hi', List.map_append]
      have : b.getD i 0 = b[i] := by simp [Array.getD, hi]
      rw [this]
      apply Array.ext'
      simp
    dsimp only
    rw [e]
  · rw [hn]
    show (pure _ >>= _ : Sem _) = _
    rw [pure_bind]
    have e : b.toList.take b.size = b.toList := List.take_of_length_le (by simp)
    dsimp only
    rw [e]
    congr 2
    apply Array.ext'
    simp
end Mine
end

section
open PySem.Builtin
namespace Mine
theorem meets_text_a {b : Array UInt8} {t t1 t2 : Tok} {x d : PySem.Str} {n : Nat} (hd : ∀ id, _codecs.runDecoder id _codecs.asciiDecoder none true b 0 [] = pure (x.cps, n)) :
    Meets («_codecs.decode.text» ⟨[.bytes b t, .str (PySem.Str.ofString "ascii") t1, .none, .str d t2], []⟩) (fun _ R s => x.length ≤ sizeLine ∧ R (.ok (.ret (.str x s.toks))) { s with toks := s.toks + 1 }) := by
  refine .of_wp fun prog w A R s hS => ?_
  obtain ⟨hsz, h⟩ := hS
  show wpAny _ _ (Bytes.bytesLike _ (.bytes b t) >>= fun r => _) _ _ s
  refine wpAny_bind (wpAny_of_eq KBd.like_eq ?_)
  refine wpAny_bind (wpAny_of_eq KBd.held_eq ?_)
  show wpAny _ _ (_codecs.decodeRoad _ b (PySem.Str.ofString "ascii") none [] >>= fun v => _) _ _ s
  rw [road_a, hd]
  refine wpAny_bind (wpAny_bind (wpAny_pure ?_))
  exact wpAny_mkStr (wpAny_pure ⟨_, rfl, h⟩) hsz
theorem meets_dec_a {c : UInt8} {cs : List UInt8} {t u : Tok} {x : PySem.Str} {n : Nat} (hd : ∀ id, _codecs.runDecoder id _codecs.asciiDecoder none true (c :: cs).toArray 0 [] = pure (x.cps, n)) :
    Meets («bytes.decode» ⟨[.bytes (c :: cs).toArray t, .str (PySem.Str.ofString "ascii") u], []⟩) (fun _ R s => x.length ≤ sizeLine ∧ ∀ t' k, R (.ok (.ret (.str x t'))) { s with toks := k }) := by
  refine .of_wp fun prog w A R s hS => ?_
  obtain ⟨hsz, h⟩ := hS
  rw [dec_eq]
  refine wpAny_bind (wpAny_mkStr ?_ (by decide))
  refine wpAny_bind (wpAny_mkStr ?_ (by decide))
  refine wpAny_bind (wpAny_mkStr ?_ (by decide))
  exact wpAny_bind (call_function_meets KBd.kind_text KBd.plain_text KBd.entry_text (KBd.args_text _ _ _ _) (meets_text_a hd) ⟨hsz, wpAny_pure ⟨_, rfl, h _ _⟩⟩)
section
variable {w : World} {A : Around} {E : Value → Shared → Prop} {Q : Value → Shared → Prop} {t u : Tok} {hp h' : Heap} {gn : Array GenState} {dr : Drawn} {tk : Nat} {os : OsState} {pos : Pos} {k : Nat} {env : Env}
theorem rDecM {b : Array UInt8} {pl : Sem Bool} {QM : Value × List Value → Shared → Prop} (h : QM (.builtin "bytes.decode", [.bytes b t]) ⟨hp, gn, dr, tk, os⟩) : wpAny (model PP w) A (getMethod (.bytes b t) "decode" pl) QM E ⟨hp, gn, dr, tk, os⟩ := KBd.method h
theorem rDec {ds : List Nat} (hne : ds ≠ []) (hd : ∀ d ∈ ds, d < 16) (hl : ds.length ≤ 1000) (h : ∀ t' tk', Q (.str (tx (ds.reverse.map (65 + ·))) t') ⟨hp, gn, dr, tk', os⟩) : wpAny (model PP w) A (call (.builtin "bytes.decode") [.bytes (apB ds) t, .str "ascii" u]) Q E ⟨hp, gn, dr, tk, os⟩ := by
  have hap : ∀ d, d < 16 → (ap d).toNat = 65 + d := by
    intro d hd
    have : ∀ d : Fin 16, (ap d.val).toNat = 65 + d.val := by decide
    exact this ⟨d, hd⟩
  have run : ∀ id, _codecs.runDecoder id _codecs.asciiDecoder none true (apB ds) 0 [] = pure ((tx (ds.reverse.map (65 + ·))).cps, (apB ds).size) := fun id => by
    rw [run_ascii id (apB ds) ?_ (by simp [apB]; (clear hne; omega))]
    · congr 2
      show Array.map _ (apB ds) = (ds.reverse.map (65 + ·)).toArray
      apply Array.ext'
      simp only [apB, Array.toList_map, List.toList_toArray, List.map_map]
      refine List.map_congr_left fun d hm => ?_
      exact hap d (hd d (by simpa using hm))
    · intro c hc
      simp only [apB, List.mem_map, List.toList_toArray] at hc
      obtain ⟨d, hm, rfl⟩ := hc
      have := hd d (by simpa using hm)
      rw [hap d this]
      (clear hne hl; omega)
  obtain ⟨c, cs, ecs⟩ : ∃ c cs, ds.reverse.map ap = c :: cs := by
    cases e : ds.reverse.map ap with
    | nil => exact absurd (by simpa using e) hne
    | cons c cs => exact ⟨c, cs, rfl⟩
  have e : apB ds = (c :: cs).toArray := by unfold apB; rw [ecs]
  rw [e] at run ⊢
  exact call_meets FB.slot_bytes_decode (typeIs_bytes _ _ _) FB.entry_bytes_decode (args_dec2 _ _) (meets_dec_a run) ⟨by show (ds.reverse.map (65 + ·)).toArray.size ≤ _; rw [sizeLine_eq]; simp; (clear hne; omega), fun t' k => h t' k⟩
theorem rJoinM {x : Str} {pl : Sem Bool} {QM : Value × List Value → Shared → Prop} (h : QM (.builtin "str.join", [.str x t]) ⟨hp, gn, dr, tk, os⟩) : wpAny (model PP w) A (getMethod (.str x t) "join" pl) QM E ⟨hp, gn, dr, tk, os⟩ := GM.join h
theorem rJoin {D : Addr} {x : Str} {vs : List Value} {ys : List Str} (hl : hp.IsList D vs.toArray) (hi : StrsAre vs ys) (hsep : x.length ≤ 16) (hw : (ys.map (·.length)).sum + ys.length ≤ 1048576)
    (h : ∀ t' k, Q (.str (Txt.join x ys) t') ⟨hp, gn, dr, k, os⟩) : wpAny (model PP w) A (call (.builtin "str.join") [.str x t, .ref D]) Q E ⟨hp, gn, dr, tk, os⟩ := join_listW hl (by simpa using hi) hsep hw h
end
end Mine
end

section
open PySem.Builtin
namespace Mine
theorem join_tj (s : Nat) : ∀ ws : List (List Nat), (Txt.join (chr s) (ws.map tx)).cps.toList = tj s ws
  | [] => by first | rfl | simp [Txt.join, tj]
  | [w] => by first | rfl | simp [Txt.join, tj]
  | w :: v :: r => by
    have ih := join_tj s (v :: r)
    have e : Txt.join (chr s) ((w :: v :: r).map tx) = tx w ++ chr s ++ Txt.join (chr s) ((v :: r).map tx) := by
      have g : ∀ parts, Txt.join (chr s) parts = Str.join (chr s) parts := fun parts => by first | exact Builtin.Str.glued_eq_join _ _ | exact PySem.StrLaws.glued_eq_join _ _
      rw [g, g]
      rfl
    rw [e, tj, ← ih]
    show (tx w ++ chr s ++ Txt.join (chr s) ((v :: r).map tx)).cps.toList = _
    have a : ∀ x y : Str, (x ++ y).cps = x.cps ++ y.cps := fun x y => rfl
    rw [a, a]
    simp
theorem hx_lt : ∀ (n x : Nat), x < n → ∀ d ∈ hx x, d < 16
  | 0, x, h => absurd h (Nat.not_lt_zero _)
  | n + 1, x, h => by
    intro d hd
    by_cases z : x = 0
    · subst z; rw [hx_zero] at hd; cases hd
    · rw [hx_pos z] at hd
      rcases List.mem_cons.mp hd with rfl | hd
      · exact Nat.mod_lt _ (by decide)
      · exact hx_lt n (x / 16) (by have := Nat.div_lt_self (Nat.pos_of_ne_zero z) (show 1 < 16 by decide); (clear z; omega)) d hd
theorem hx_len : ∀ (k x : Nat), x < 16 ^ k → (hx x).length ≤ k
  | 0, x, h => by
    have : x = 0 := by simpa using h
    subst this; rw [hx_zero]; exact Nat.le_refl _
  | k + 1, x, h => by
    by_cases z : x = 0
    · subst z; rw [hx_zero]; exact Nat.zero_le _
    · rw [hx_pos z, List.length_cons]
      have := hx_len k (x / 16) (by rw [Nat.div_lt_iff_lt_mul (by decide)]; rw [Nat.pow_succ] at h; exact h)
      (clear h z; omega)
theorem hx_ne {x : Nat} (h : x ≠ 0) : hx x ≠ [] := by rw [hx_pos h]; exact List.cons_ne_nil _ _
theorem hx_val : ∀ (n x : Nat), x < n → dsum 4 ((hx x).map fun (d : Nat) => (d : Int)) = x
  | 0, x, h => absurd h (Nat.not_lt_zero _)
  | n + 1, x, h => by
    by_cases z : x = 0
    · subst z; rw [hx_zero]; rfl
    · rw [hx_pos z, List.map_cons, dsum, hx_val n (x / 16) (by have := Nat.div_lt_self (Nat.pos_of_ne_zero z) (show 1 < 16 by decide); (clear z; omega))]
      have := Nat.mod_add_div x 16
      have e : (2 : Int) ^ 4 = 16 := by decide
      rw [e]
      (clear h z this e; omega)
def word (x : Nat) : List Nat := (hx x).reverse.map (65 + ·)
theorem word_val (x : Nat) : wval (word x) = x := by
  unfold wval word
  rw [← List.map_reverse, List.reverse_reverse, List.map_map]
  have : ((fun (c : Nat) => (c : Int) - 65) ∘ fun d : Nat => 65 + d) = fun (d : Nat) => (d : Int) := by
    funext d
    show (((65 + d : Nat)) : Int) - 65 = d
    omega
  rw [this, hx_val (x + 1) x (Nat.lt_succ_self _)]
theorem word_ok {x : Nat} (h0 : x ≠ 0) (h : x < 16 ^ 60) : word x ≠ [] ∧ (word x).length ≤ 64 ∧ ∀ c ∈ word x, Ltr c := by
  refine ⟨?_, ?_, ?_⟩
  · unfold word
    intro q
    exact hx_ne h0 (by simpa using q)
  · unfold word
    have := hx_len 60 x h
    simp
    (clear h0 h; omega)
  · intro c hc
    unfold word at hc
    obtain ⟨d, hd, rfl⟩ := List.mem_map.mp hc
    have := hx_lt (x + 1) x (Nat.lt_succ_self _) d (List.mem_reverse.mp hd)
    exact ⟨by (clear h0 h; omega), by (clear h0 h; omega)⟩
end Mine
end

namespace Mine
section
variable {w : World} {A : Around} {R : GenEnd} {Y : Protocol} {n : Nat} {s₀ : Shared} {c : Code} {fs : List Frame} {s : Shared} {env : Env}
  {K : Flow → Sem Fin} {H : Value → Sem Fin} {gd : Bool → Bool} {lv : List Value → List Value}
abbrev SG (w : World) := Seg (model PP w)
theorem sgIf {test : Expr} {body orelse : List Stmt} {pos : Pos}
    (h : wpAny (model PP w) (A.over c fs) (isTrue test env (eval test env)) (fun b s' => if b = true then SG w A R Y n s₀ c ((execs body env).wrap K H gd lv) fs s' else SG w A R Y n s₀ c ((execs orelse env).wrap K H gd lv) fs s') (fun _ _ => False) s) :
    SG w A R Y n s₀ c ((exec (.If test body orelse pos) env).wrap K H gd lv) fs s := by
  show Seg _ A R Y n s₀ c (.at pos fun _ => ((isTrue test env (eval test env) >>= fun b => if b = true then execs body env else execs orelse env)).wrap K H gd lv) fs s
  refine seg_at ?_
  rw [Sem.bind_eq_wrap', Sem.wrap_wrap]
  refine seg_wrap (wpAny_mono h (fun b s' hb => ?_) fun _ _ z => z.elim)
  cases b with
  | true => rw [if_pos rfl] at hb; exact hb
  | false => rw [if_neg (by decide)] at hb; exact hb
theorem sgStmt {st : Stmt} (h : wpAny (model PP w) (A.over c fs) (exec st env) (fun f s' => SG w A R Y n s₀ c (K f) fs s') (fun _ _ => False) s) : SG w A R Y n s₀ c ((exec st env).wrap K H gd lv) fs s :=
  seg_wrap (wpAny_mono h (fun _ _ z => z) fun _ _ z => z.elim)
abbrev backK (env : Env) (K : Flow → Sem Fin) (H : Value → Sem Fin) (gd : Bool → Bool) (lv : List Value → List Value) : Result → Sem Fin := fun r => ((match r with | .ok f => (.pure f : Sem Flow) | .error e => .raise e).onRaise fun (x : Value) => do
        if (← field x 1) == Value.none then unsupported "frame.own-activation:exception-without-traceback"
        setFlight x env.frame).wrap K H gd lv
theorem sgFor {target iter : Expr} {body : List Stmt} {pos : Pos}
    (h : wpAny (model PP w) (A.over c fs) (eval iter env) (fun x s₁ => wpAny (model PP w) (A.over c fs) (pyIter x) (fun it s₂ =>
      ∀ p, SG w A R Y n s₀ (.forLoop target it body [] env) ((model PP w).den (.forLoop target it body [] env)) (.ret (backK env K H gd lv) none (gd false) (lv []) c p [] :: fs) s₂) (fun _ _ => False) s₁) (fun _ _ => False) s)
    (hs : ∀ x, foldedSetIterable iter env x = pure x := by intro _; rfl) :
    SG w A R Y n s₀ c ((exec (.For target iter body [] pos) env).wrap K H gd lv) fs s := by
  rw [exec_For]
  show Seg _ A R Y n s₀ c (.at pos fun _ => (eval iter env >>= fun x => foldedSetIterable iter env x >>= fun x => standAt iter.pos >>= fun _ => holding [x] (pyIter x) >>= fun it => runOwn (.forLoop target it body [] env) env).wrap K H gd lv) fs s
  refine seg_at ?_
  rw [Sem.bind_eq_wrap', Sem.wrap_wrap]
  refine seg_wrap (wpAny_mono h (fun x s₁ h₁ => ?_) fun _ _ z => z.elim)
  rw [hs x, pure_bind, Sem.bind_eq_wrap', Sem.wrap_wrap]
  refine seg_wrap (wpAny_standAt ?_)
  rw [Sem.bind_eq_wrap', Sem.wrap_wrap]
  refine seg_wrap (wpAny_holding (wpAny_mono h₁ (fun it s₂ h₂ => ?_) fun _ _ z => z.elim))
  exact seg_call h₂
theorem sgForLoop {x : Str} {px : Pos} {it : Value} {body : List Stmt}
    (h : wpAny (model PP w) (A.over (.forLoop (.Name x px) it body [] env) fs) (pyNext it) (fun r s₁ => ∃ v, r = some v ∧ wpAny (model PP w) (A.over (.forLoop (.Name x px) it body [] env) fs) (storeName env x v) (fun _ s₂ =>
      ∀ H', SG w A R Y n s₀ (.forLoop (.Name x px) it body [] env) ((execs body env).wrap (fun f => match f with
            | .next | .cont => .pure (.again (.forLoop (.Name x px) it body [] env))
            | .brk => .pure (.done .next)
            | .ret v => .pure (.done (.ret v))) H' id id) fs s₂) (fun _ _ => False) s₁) (fun _ _ => False) s) :
    SG w A R Y n s₀ (.forLoop (.Name x px) it body [] env) ((model PP w).den (.forLoop (.Name x px) it body [] env)) fs s := by
  show Seg _ A R Y n s₀ _ ((forTurn (.Name x px) it body [] env).onRaise (fun x => do noteFrame x env; theTreesLotGoes x)) fs s
  simp only [forTurn]
  rw [Sem.onRaise_eq_wrap, Sem.bind_eq_wrap', Sem.wrap_wrap]
  refine seg_wrap (wpAny_standAt ?_)
  rw [Sem.bind_eq_wrap', Sem.wrap_wrap]
  refine seg_wrap (wpAny_onRaise (wpAny_mono h (fun r s₁ h₁ => ?_) fun _ _ z => z.elim))
  obtain ⟨v, rfl, h₁⟩ := h₁
  show Seg _ A R Y n s₀ _ (Sem.wrap _ _ _ _ (letOwnedTupleGo (Expr.Name x px) it v >>= _)) fs s₁
  rw [show letOwnedTupleGo (Expr.Name x px) it v = pure () from rfl, pure_bind, Sem.bind_eq_wrap', Sem.wrap_wrap]
  refine seg_wrap (wpAny_assign_Name (wpAny_mono h₁ (fun _ s₂ h₂ => ?_) fun _ _ z => z.elim))
  rw [Sem.bind_eq_wrap', Sem.wrap_wrap]
  have h₃ := h₂ (fun e => Sem.wrap (fun _ => .raise e) .raise id id (do noteFrame e env; theTreesLotGoes e : Sem Unit))
  rw [Sem.wrap_congr (execs body env) _ _ (K' := fun f => match f with
            | .next | .cont => .pure (.again (.forLoop (.Name x px) it body [] env))
            | .brk => .pure (.done .next)
            | .ret v => .pure (.done (.ret v))) (H' := (fun e => (do noteFrame e env; theTreesLotGoes e : Sem Unit).wrap (fun _ => .raise e) .raise id id))
        (fun f => by cases f <;> rfl)
        (fun e => by first | exact Sem.bind_eq_wrap _ _ | (show (do noteFrame e env; theTreesLotGoes e : Sem Unit).bind (fun _ => .raise e) = _; rw [Sem.bind_eq_wrap]))]
  exact h₃
theorem sgWhile {test : Expr} {body : List Stmt} {pos : Pos}
    (h : ∀ p, SG w A R Y n s₀ (.whileLoop test body [] env) ((model PP w).den (.whileLoop test body [] env)) (.ret (backK env K H gd lv) none (gd false) (lv []) c p [] :: fs) s) :
    SG w A R Y n s₀ c ((exec (.While test body [] pos) env).wrap K H gd lv) fs s := seg_While h
theorem sgWhileLoop {test : Expr} {body : List Stmt}
    (h : wpAny (model PP w) (A.over (.whileLoop test body [] env) fs) (isTrue test env (eval test env)) (fun b s' => b = true ∧ ∀ H', SG w A R Y n s₀ (.whileLoop test body [] env) ((execs body env).wrap (fun f => match f with
            | .next | .cont => .pure (.again (.whileLoop test body [] env))
            | .brk => .pure (.done .next)
            | .ret v => .pure (.done (.ret v))) H' id id) fs s') (fun _ _ => False) s) :
    SG w A R Y n s₀ (.whileLoop test body [] env) ((model PP w).den (.whileLoop test body [] env)) fs s := by
  refine seg_whileLoop (wpAny_mono h (fun b s' hb => ?_) fun _ _ z => z.elim)
  obtain ⟨rfl, hb⟩ := hb
  rw [if_pos rfl]
  exact hb _
theorem sgFunc {body : List Stmt}
    (h : ∀ H', SG w A R Y n s₀ (.func body env) ((execs body env).wrap (fun f => .pure (.done (.ret (match f with | .ret v => v | _ => .none)))) H' id id) fs s) :
    SG w A R Y n s₀ (.func body env) ((model PP w).den (.func body env)) fs s := seg_func (h _)
theorem sgCons {st : Stmt} {rest : List Stmt}
    (h : SG w A R Y n s₀ c ((exec st env).wrap (fun f => match f with | .next => (execs rest env).wrap K H gd lv | f => K f) H gd lv) fs s) :
    SG w A R Y n s₀ c ((execs (st :: rest) env).wrap K H gd lv) fs s := seg_execs_cons h
theorem sgYield {e : Expr} {ypos pos : Pos} (hfs : splitAtGen fs = none) (hgd : gd false = false) (hfg : fs.any Frame.guarded = false)
    (h : wpAny (model PP w) (A.over c fs) (eval e env) (fun v s' => ∀ kap : Resume → Shared → Prop,
        (∀ s'', SG w A R Y n s'' c (K .next) fs s'' → kap (.send .none) s'') → Y n s₀ v s' kap)
      (fun _ _ => False) s) (hco : env.scope.isCoroutine = false := by rfl) (hi : interactive env = false := by rfl) :
    SG w A R Y (n + 1) s₀ c ((exec (.Expr (.Yield (some e) ypos) pos) env).wrap K H gd lv) fs s :=
  seg_Expr_Yield hfs hgd hfg (wpAny_mono h (fun v s' z kap hk => z kap fun s'' hs => hk .none s'' hs) fun _ _ z => z.elim) hco hi
end
end Mine

namespace Mine
def Kb (C hi b : Nat) : Prop := b ≠ C ∧ b < hi
def YP (g0 : Heap) (N lo C hi : Nat) (item : Nat → Int) : Protocol := fun m s₀ v s₁ κ => ∃ t h tk, v = .int (item (N - 1 - m)) t ∧ s₁ = ⟨h, s₀.gens, s₀.drawn, tk, s₀.os⟩ ∧ OK g0 h ∧ s₀.heap.objs.size ≤ h.objs.size ∧ (∀ b o, Kb C hi b → s₀.heap.get? b = some o → h.get? b = some o) ∧
  (0 < m → ∀ s'', OK g0 s''.heap → (∀ b o, lo ≤ b → h.get? b = some o → s''.heap.get? b = some o) → κ (.send .none) s'')
abbrev RF : GenEnd := fun _ _ r _ => r = .ok .next ∧ False
theorem FS.mk0 {g0 h : Heap} {C : Addr} {m : Str → Option Value} (k : OK g0 h) (ns : h.Ns C m) (hC : g0.objs.size ≤ C) : FS g0 g0 [] C h m [] :=
  ⟨k, ⟨k.sz, fun b o e q _ => k.kp b o e q⟩, Nat.le_refl _, ns, hC, fun _ q => (nomatch q), fun _ q => (nomatch q), List.nodup_nil, fun _ q => (nomatch q)⟩
section
variable {w : World} {A : Around} {g0 : Heap} {N lo hi : Nat} {item : Nat → Int} {C : Addr} {env : Env} {last : Int}
theorem rTrue {E : Value → Shared → Prop} {Q : Value → Shared → Prop} {s : Shared} {k : Nat} {pos : Pos} {b : Bool} (h : Q (.bool b) s) : wpAny (model PP w) A (eval (.Constant (.bool b) k pos) env) Q E s := fun _ _ _ => h
theorem gi3 {kb : Nat} {pb pn py pe : Pos} {fs : List Frame} (hfs : splitAtGen fs = none) (hfg : fs.any Frame.guarded = false) (hC : g0.objs.size ≤ C) (hlo : lo ≤ C)
    (hL : env.locals = C) (hk : env.scope.kind = .function) (hx : env.kindOf "last_interval" = some .local) (hco : env.scope.isCoroutine = false) (hint : interactive env = false) :
    ∀ (n : Nat) (s₀ : Shared) (h : Heap) (tk : Nat) (m : Str → Option Value) (tl : Tok), n < N → (∀ i, N - 1 - n ≤ i → item i = last) → OK g0 h → h.Ns C m → m "last_interval" = some (.int last tl) → s₀.heap.objs.size ≤ h.objs.size → (∀ b o, Kb C hi b → s₀.heap.get? b = some o → h.get? b = some o) →
      SG w A RF (YP g0 N lo C hi item) (n + 1) s₀ (.whileLoop (.Constant (.bool true) kb pb) [.Expr (.Yield (some (.Name "last_interval" pn)) py) pe] [] env)
        ((model PP w).den (.whileLoop (.Constant (.bool true) kb pb) [.Expr (.Yield (some (.Name "last_interval" pn)) py) pe] [] env)) fs ⟨h, s₀.gens, s₀.drawn, tk, s₀.os⟩ := by
  intro n
  induction n with
  | zero =>
    intro s₀ h tk m tl hn hit k ns hm hsz hkp
    refine sgWhileLoop ?_
    refine isTrue_plain ?_
    refine rTrue ?_
    refine wpAny_truthy_bool ?_
    refine ⟨rfl, fun H' => ?_⟩
    refine sgCons ?_
    refine sgYield hfs rfl hfg ?_ hco hint
    have F := FS.mk0 k ns hC
    refine nL F hm ?_ hL hk hx
    intro kap hkap
    exact ⟨tl, h, _, by rw [hit _ (Nat.le_refl _)], rfl, k, hsz, hkp, fun q => absurd q (Nat.lt_irrefl _)⟩
  | succ n ih =>
    intro s₀ h tk m tl hn hit k ns hm hsz hkp
    refine sgWhileLoop ?_
    refine isTrue_plain ?_
    refine rTrue ?_
    refine wpAny_truthy_bool ?_
    refine ⟨rfl, fun H' => ?_⟩
    refine sgCons ?_
    refine sgYield hfs rfl hfg ?_ hco hint
    have F := FS.mk0 k ns hC
    refine nL F hm ?_ hL hk hx
    intro kap hkap
    refine ⟨tl, h, _, by rw [hit _ (Nat.le_refl _)], rfl, k, hsz, hkp, fun _ s'' k'' h'' => hkap s'' ?_⟩
    refine seg_execs_nil ?_
    refine seg_again rfl ?_
    refine ih s'' s''.heap s''.toks m tl (by (clear hC hlo hL hsz; omega)) (fun i hi => hit i (by (clear hC hlo hL hsz; omega))) k'' ?_ hm (Nat.le_refl _) (fun _ _ _ e => e)
    obtain ⟨oL, es, ep, eL, r⟩ := ns
    exact ⟨oL, es, ep, h'' _ _ hlo eL, r⟩
end
end Mine

namespace Mine
theorem cm_at (w : World) : ∃ t, nsIn (KK w) mainGlobals "CHAR_MAX" = some (some (.int 127 t)) := ⟨_, by rfl⟩
section
variable {w : World} {A : Around} {g0 : Heap} {N lo hi : Nat} {item : Nat → Int} {C l it : Addr} {env : Env} {last : Int} {mg mb : Str → Option Value}
theorem gi2 (G : Gd w mg mb g0) {xs : List Int} {vs : List Value} {p1 p2 p3 p4 p5 p6 p7 p8 p9 p10 p11 p12 p13 p14 p15 p16 p17 p18 p19 q1 q2 q3 q4 q5 q6 : Pos} {k1 k2 k3 : Nat} {rs : List Stmt} {fs : List Frame} (body : List Stmt)
    (hb : body = [.If (.Compare (.Name "interval" p2) [.Eq] [.Name "CHAR_MAX" p3] p4) [.Return none p5] [] p6,
            .If (.Compare (.Name "interval" p7) [.Eq] [.Constant (.int 0) k1 p8] p9) [.If (.Compare (.Name "last_interval" p10) [.Is] [.Constant .none k2 p11] p12) rs [] p13, .While (.Constant (.bool true) k3 p14) [.Expr (.Yield (some (.Name "last_interval" p15)) p16) p17] [] p18] [] p19,
            .Expr (.Yield (some (.Name "interval" q1)) q2) q3, .Assign [.Name "last_interval" q4] (.Name "interval" q5) q6])
    (hfs : splitAtGen fs = none) (hfg : fs.any Frame.guarded = false) (hlog : g0.objs.size ≤ lo) (hlC : lo ≤ C) (hll : lo ≤ l) (hli : lo ≤ it) (hCi : @Ne Nat it C) (hil : @Ne Nat l it) (hCl : @Ne Nat l C)
    (hL : env.locals = C) (hk : env.scope.kind = .function) (hx1 : env.kindOf "last_interval" = some .local) (hx2 : env.kindOf "interval" = some .local) (hx3 : env.kindOf "CHAR_MAX" = some .globalImplicit) (hge : env.globals = mainGlobals) (hco : env.scope.isCoroutine = false) (hint : interactive env = false) (hhi : hi ≤ it)
    (hvs : IntsAre vs (xs ++ [0])) (hxs : ∀ x ∈ xs, x ≠ 127 ∧ x ≠ 0) (hlen : xs.length ≤ 1000) (hit1 : ∀ i (h : i < xs.length), item i = xs[i]) (hit2 : ∀ i, xs.length ≤ i → item i = last) (hlast : ∃ j, j + 1 = xs.length ∧ xs[j]? = some last) :
    ∀ (n : Nat) (i : Nat) (s₀ : Shared) (h : Heap) (tk : Nat) (m : Str → Option Value), n < N → N - 1 - n = i → i ≤ xs.length → OK g0 h → h.Ns C m → (i ≠ 0 → ∃ t x, m "last_interval" = some (.int x t) ∧ xs[i - 1]? = some x) →
      h.IsListIter it l i → h.IsList l vs.toArray → s₀.heap.objs.size ≤ h.objs.size → (∀ b o, Kb C hi b → s₀.heap.get? b = some o → h.get? b = some o) →
      SG w A RF (YP g0 N lo C hi item) (n + 1) s₀ (.forLoop (.Name "interval" p1) (.ref it) body [] env) ((model PP w).den (.forLoop (.Name "interval" p1) (.ref it) body [] env)) fs ⟨h, s₀.gens, s₀.drawn, tk, s₀.os⟩ := by
  intro n
  induction n using Nat.strongRecOn with
  | ind n ih =>
    intro i s₀ h tk m hn hNi hile k ns hml hit hl hsz hkp
    obtain ⟨io, ei, ci, di⟩ := hit
    have hnc : NC io := fun vs q t z e => by rw [di] at z; cases z; cases e
    have F0 := (FS.mk0 k ns (Nat.le_trans hlog hlC)).add ei (Nat.le_trans hlog hli) (fun _ q => (nomatch q)) hCi
    have hvl : i < (xs ++ [0]).length := by simp; (clear hlog hlC hll hli hCi hil hCl hL hge hhi hlen hn hNi hsz; omega)
    obtain ⟨tv, ev⟩ := intsAre_get hvs (i := i) hvl
    generalize hxv : (xs ++ [0])[i] = xv at *
    refine sgForLoop ?_
    refine wpAny_pyNext_list_item ⟨io, ei, ci, di⟩ hl (x := .int xv tv) (by simpa using ev) ?_
    rintro h1 ⟨o1, e1, c1, d1⟩ S1
    have F1 := F0.updS 0 rfl hnc S1 e1
    refine ⟨_, rfl, ?_⟩
    refine rStS F1 ?_ hL hk hx2
    intro h2 S2 F2 H'
    have sz2 : s₀.heap.objs.size ≤ h2.objs.size := Nat.le_trans hsz (Nat.le_trans (same_sz S1) (same_sz S2))
    have kp2 : ∀ b o, Kb C hi b → s₀.heap.get? b = some o → h2.get? b = some o := fun b o hb e =>
      (S2.2 b hb.1).trans ((S1.2 b (Nat.ne_of_lt (Nat.lt_of_lt_of_le hb.2 hhi))).trans (hkp b o hb e))
    have hl2 : h2.IsList l vs.toArray := by
      obtain ⟨ol, el, r⟩ := hl
      exact ⟨ol, (S2.2 _ hCl).trans ((S1.2 _ hil).trans el), r⟩
    have hit2' : h2.IsListIter it l (i + 1) := ⟨o1, F2.at 0 rfl, c1, d1⟩
    subst hb
    obtain ⟨tc, ecm⟩ := cm_at w
    refine sgCons ?_
    refine sgIf ?_
    refine wpAny_isTrue_Compare1 ?_
    refine nL F2 rfl ?_ hL hk hx2
    refine nG G F2 ecm ?_ hge hk hx3
    refine rEq ?_
    refine wpAny_truthy_bool ?_
    by_cases hi2 : i < xs.length
    · have hxi : xs[i] = xv := by rw [← hxv]; exact (List.getElem_append_left hi2).symm
      have hq := hxs xs[i] (List.getElem_mem hi2)
      rw [hxi] at hq
      rw [if_neg (by simpa using hq.1)]
      refine seg_execs_nil ?_
      refine sgCons ?_
      refine sgIf ?_
      refine wpAny_isTrue_Compare1 ?_
      refine nL F2 rfl ?_ hL hk hx2
      refine rI ?_
      refine rEq ?_
      refine wpAny_truthy_bool ?_
      rw [if_neg (by simpa using hq.2)]
      refine seg_execs_nil ?_
      refine sgCons ?_
      refine sgYield hfs rfl hfg ?_ hco hint
      refine nL F2 rfl ?_ hL hk hx2
      intro kap hkap
      refine ⟨tv, h2, _, by rw [hNi, hit1 i hi2, hxi], rfl, F2.ok, sz2, kp2, fun hn0 s'' k'' h'' => hkap s'' ?_⟩
      obtain ⟨n', rfl⟩ : ∃ n', n = n' + 1 := ⟨n - 1, by (clear hlog hlC hll hli hCi hil hCl hL hge hhi hlen hn hNi hile hsz hxv sz2 hxi hq; omega)⟩
      refine sgCons ?_
      have ns2 : s''.heap.Ns C (fun y => if y = "interval" then some (.int xv tv) else m y) := by
        obtain ⟨oL, es, ep, eL, r⟩ := F2.ns
        exact ⟨oL, es, ep, h'' _ _ hlC eL, r⟩
      have F3 := (FS.mk0 k'' ns2 (Nat.le_trans hlog hlC)).add (h'' _ _ hli (F2.at 0 rfl)) (Nat.le_trans hlog hli) (fun _ q => (nomatch q)) hCi
      refine sgStmt ?_
      refine wpAny_Assign_Name ?_ rfl
      refine nL F3 rfl ?_ hL hk hx2
      refine rStS (hp := s''.heap) (gn := s''.gens) (dr := s''.drawn) (tk := s''.toks) (os := s''.os) F3 ?_ hL hk hx1
      intro h4 S4 F4
      refine seg_execs_nil ?_
      refine seg_again rfl ?_
      refine ih n' (Nat.lt_succ_self _) (i + 1) s'' h4 (s''.toks + 1) _ (by (clear hlog hlC hll hli hCi hil hCl hL hge hhi hlen hile hsz hxv sz2 hxi hq hNi hn0; omega)) (by (clear hlog hlC hll hli hCi hil hCl hL hge hhi hlen hile hsz hxv sz2 hxi hq hn0; omega)) (by (clear hlog hlC hll hli hCi hil hCl hL hge hhi hlen hile hsz hxv sz2 hxi hq hn hn0; omega)) F4.ok F4.ns (fun _ => ⟨tv, xv, rfl, ?_⟩) ⟨o1, F4.at 0 rfl, c1, d1⟩ ?_ (same_sz S4) ?_
      · rw [Nat.add_sub_cancel, List.getElem?_eq_getElem hi2, hxi]
      · obtain ⟨ol, el, r⟩ := hl2
        exact ⟨ol, (S4.2 _ hCl).trans (h'' _ _ hll el), r⟩
      · exact fun b o hb e => (S4.2 b hb.1).trans e
    · have hie : i = xs.length := by (clear hlog hlC hll hli hCi hil hCl hL hge hhi hlen hn hNi hsz hxv sz2; omega)
      have hx0 : xv = 0 := by
        rw [← hxv]
        subst hie
        simp
      subst hx0
      rw [if_neg (by decide)]
      refine seg_execs_nil ?_
      refine sgCons ?_
      refine sgIf ?_
      refine wpAny_isTrue_Compare1 ?_
      refine nL F2 rfl ?_ hL hk hx2
      refine rI ?_
      refine rEq ?_
      refine wpAny_truthy_bool ?_
      rw [if_pos (by decide)]
      obtain ⟨j, hj, ej⟩ := hlast
      obtain ⟨tl, xl, hml', exl⟩ := hml (by (clear hlog hlC hll hli hCi hil hCl hL hge hhi hn hNi hsz sz2 hie hxv; omega))
      have : i - 1 = j := by (clear hlog hlC hll hli hCi hil hCl hL hge hhi hn hNi hsz sz2 hie hxv; omega)
      rw [this, ej] at exl
      cases exl
      refine sgCons ?_
      refine sgIf ?_
      refine wpAny_isTrue_Compare1 ?_
      refine nL F2 hml' ?_ hL hk hx1
      refine rNone ?_
      refine is_int_none ?_
      refine wpAny_truthy_bool ?_
      rw [if_neg (by decide)]
      refine seg_execs_nil ?_
      refine sgCons ?_
      refine sgWhile ?_
      intro p
      refine gi3 (last := last) ?_ ?_ (Nat.le_trans hlog hlC) hlC hL hk hx1 hco hint n s₀ h2 _ _ tl hn (fun i' hi' => hit2 i' (by (clear hlog hlC hll hli hCi hil hCl hL hge hhi hlen hn hsz sz2 hie hxv; omega))) F2.ok F2.ns hml' sz2 kp2
      · first | rfl | (show Option.map _ (splitAtGen fs) = none; rw [hfs]; rfl) | (unfold splitAtGen; rw [hfs]; rfl) | simp [splitAtGen, hfs]
      · first | (rw [List.any_cons, hfg]; rfl) | simp [hfg]
end
end Mine

namespace Mine
def GW (w : World) (g0 : Heap) (A₁ : Around) (N lo C hi : Nat) (item : Nat → Int) (n : Nat) (h : Heap) (gs : GenState) : Prop :=
  ∀ s : Shared, OK g0 s.heap → (∀ b o, lo ≤ b → h.get? b = some o → s.heap.get? b = some o) → gs.Goes (model PP w) A₁ RF (YP g0 N lo C hi item) n (.send .none) s
theorem c_gi {w : World} {mg mb : Str → Option Value} {g0 : Heap} (G : Gd w mg mb g0) {A A₁ : Around} {R : Result → Shared → Prop} {hp : Heap} {gn : Array GenState} {dr : Drawn} {tk0 : Nat} {os : OsState} (k : OK g0 hp) {l : Addr} {lo N : Nat} {item : Nat → Int} {last : Int} {xs : List Int} {vs : List Value}
  (rm : Rm A 5) (hl : hp.IsList l vs.toArray) (hll : lo ≤ l) (hlog : g0.objs.size ≤ lo) (hN : 0 < N)
  (hvs : IntsAre vs (xs ++ [0])) (hxs : ∀ x ∈ xs, x ≠ 127 ∧ x ≠ 0) (hlen : xs.length ≤ 1000) (hit1 : ∀ i (h : i < xs.length), item i = xs[i]) (hit2 : ∀ i, xs.length ≤ i → item i = last) (hlast : ∃ j, j + 1 = xs.length ∧ xs[j]? = some last)
 (h : ∀ a h' tks gs, OK g0 h' → Kp [] hp h' → hp.objs.size < a → h'.IsGen a gn.size → gs.bare = true → GW w g0 A₁ N lo hp.objs.size (a + 1) item N h' gs → R (.ok (.ret (.ref a))) ⟨h', gn.push gs, dr, tks, os⟩) :
  codeAny (model PP w) A (.call (.ref aGI) ⟨[.ref l], []⟩) R ⟨hp, gn, dr, tk0, os⟩ := by
  refine codeAny_call_generator (by have := rm.dp; (clear hll hlog hN hlen; omega)) (k.at0 G rfl) rfl rfl rfl rfl (k.code G rfl) ?_
  refine wpAny_of_eq (a := ([("grouping", Value.ref l)] : List (Str × Value))) rfl ?_
  refine wpAny_newFunctionEnv (fun x hx => ?_) (locs (by rfl)) (fun h₁ hns hsb => ⟨?_, ?_⟩) rfl
  · have q := List.all_eq_true.mp (show (List.all _ fun (x : Str × NameKind) => !(x.2 == .cell)) = true from by rfl) x hx
    simpa using q
  · exact (k.lim G).fresh _ hsb
  have kk : ∀ b ob, hp.get? b = some ob → h₁.get? b = some ob := fun b ob e => (hsb.2 b (Nat.ne_of_lt (Heap.lt_size e))).trans (Heap.get?_push_of_some _ e)
  have sz : hp.objs.size ≤ h₁.objs.size := by
    have e := hsb.1
    rw [Heap.size_push] at e
    exact e ▸ Nat.le_succ _
  have k1 := k.ext sz kk
  obtain ⟨ol, el, cl, nl, dl⟩ := hl
  have llt : l < hp.objs.size := Heap.lt_size el
  have hC : lo ≤ hp.objs.size := Nat.le_of_lt (Nat.lt_of_le_of_lt hll llt)
  refine h _ _ _ _ (k1.ext (by rw [Heap.size_push]; exact Nat.le_succ _) (fun b o e => Heap.get?_push_of_some _ e)) ⟨by rw [Heap.size_push]; exact Nat.le_succ_of_le sz, fun b o e _ _ => Heap.get?_push_of_some _ (kk b o e)⟩ (ns_lt hns) ⟨_, _, _, Heap.get?_push_size _ rfl, rfl, rfl, rfl⟩ rfl ?_
  intro s ks hs
  refine ⟨rfl, ?_⟩
  obtain ⟨n, rfl⟩ : ∃ n, N = n + 1 := ⟨N - 1, by (clear hll hlog hlen sz llt hC; omega)⟩
  have nsS : s.heap.Ns hp.objs.size (fun x => ([("grouping", Value.ref l)] : List (Str × Value)).reverse.lookup x) := by
    obtain ⟨oL, es, ep, eL, r⟩ := hns
    exact ⟨oL, es, ep, hs _ _ hC (Heap.get?_push_of_some _ eL), r⟩
  have F := FS.mk0 ks nsS (Nat.le_trans hlog hC)
  refine sgFunc ?_
  intro H'
  refine sgCons ?_
  refine sgStmt ?_
  refine wpAny_Assign_Name ?_ rfl
  refine rNone (hp := s.heap) (gn := s.gens) (dr := s.drawn) (tk := s.toks) (os := s.os) ?_
  refine rStS F ?_
  intro h2 S2 F2
  refine sgCons ?_
  refine sgFor ?_
  refine nL F2 rfl ?_
  have el2 : h2.get? l = some ol := (S2.2 l (Nat.ne_of_lt llt)).trans (hs _ _ hll (Heap.get?_push_of_some _ (kk _ _ el)))
  refine wpAny_pyIter_list ⟨ol, el2, cl, nl, dl⟩ ?_
  intro p
  have F3 := F2.psh { cls := .type "list_iterator", data := .fields #[.ref l, .int 0 0] }
  have hs0 : hp.objs.size < s.heap.objs.size := ns_lt nsS
  have hs2 : s.heap.objs.size = h2.objs.size := S2.1.symm
  have hhi : h₁.objs.size + 1 ≤ h2.objs.size := hs2 ▸ Heap.lt_size (hs _ _ (Nat.le_trans hC sz) (Heap.get?_push_size _ rfl))
  refine gi2 (last := last) (lo := lo) (C := hp.objs.size) (it := h2.objs.size) (l := l) G (xs := xs) (vs := vs) _ rfl rfl rfl hlog hC hll (Nat.le_trans hC (Nat.le_of_lt (hs2 ▸ hs0))) (Nat.ne_of_gt (hs2 ▸ hs0)) (Nat.ne_of_lt (Nat.lt_trans llt (hs2 ▸ hs0))) (Nat.ne_of_lt llt) rfl rfl rfl rfl rfl rfl rfl rfl hhi hvs hxs hlen hit1 hit2 hlast n 0 s _ _ _ (Nat.lt_succ_self _) (by (clear hll hlog hlen sz llt hC hN hs0 hs2 hhi; omega)) (Nat.zero_le _) F3.ok F3.ns (fun q => absurd rfl q) ⟨_, F3.at 0 rfl, rfl, rfl⟩ ⟨ol, Heap.get?_push_of_some _ el2, cl, nl, dl⟩ (by rw [Heap.size_push]; exact hs2 ▸ Nat.le_succ _) ?_
  intro b o hb e
  exact Heap.get?_push_of_some _ ((S2.2 b hb.1).trans e)
end Mine

namespace Mine
def AllB (g : Array GenState) : Prop := ∀ x ∈ g, x.bare = true
theorem AllB.set {g : Array GenState} (h : AllB g) {i : Nat} {x : GenState} (hx : x.bare = true) : AllB (g.setIfInBounds i x) := fun y hy => by
  rcases Array.mem_or_eq_of_mem_setIfInBounds hy with q | q
  · exact h y q
  · exact q ▸ hx
theorem AllB.push {g : Array GenState} (h : AllB g) {x : GenState} (hx : x.bare = true) : AllB (g.push x) := fun y hy => by
  rcases Array.mem_push.mp hy with q | q
  · exact h y q
  · exact q ▸ hx
theorem rNextG {w : World} {mg mb : Str → Option Value} {g0 : Heap} (G : Gd w mg mb g0) {A : Around} {E : Value → Shared → Prop} {Q : Option Value → Shared → Prop} {hp : Heap} {gn : Array GenState} {dr : Drawn} {tk : Nat} {os : OsState} (k : OK g0 hp)
  {a : Addr} {g n N lo C hi : Nat} {item : Nat → Int} {gs : GenState} (rm : Rm A 3) (hg : hp.IsGen a g) (hgs : gn[g]? = some gs) (gw : GW w g0 A.in1 N lo C hi item (n + 1) hp gs) (hall : AllB gn)
  (h : ∀ t h' tk' gs' gn', gn'[g]? = some gs' → AllB gn' → OK g0 h' → hp.objs.size ≤ h'.objs.size → (∀ b o, Kb C hi b → hp.get? b = some o → h'.get? b = some o) → (0 < n → GW w g0 A.in1 N lo C hi item n h' gs') →
    Q (some (.int (item (N - 1 - n)) t)) ⟨h', gn', dr, tk', os⟩) : wpAny (model PP w) A (pyNext (.ref a)) Q E ⟨hp, gn, dr, tk, os⟩ := by
  have hgl : g < gn.size := (Array.getElem?_eq_some_iff.mp hgs).1
  refine wpAny_pyNext_genexpQ (P := fun _ _ _ => False) (Y := YP g0 N lo C hi item) (n := n + 1) rm.hd (k.lim G) (by have := rm.dp; (clear hgl; omega)) hg hgs (gw _ k (fun _ _ _ e => e)) ?_ (fun _ q => q.elim)
  intro v s₁ gs' hb hY
  obtain ⟨t, h1, tk1, rfl, rfl, k1, sz, kp, nx⟩ := hY
  refine h t h1 tk1 gs' _ ?_ ?_ k1 sz kp ?_
  · show ((gn.setIfInBounds g .running).setIfInBounds g gs')[g]? = some gs'
    rw [Array.getElem?_setIfInBounds_self_of_lt (by simpa using hgl)]
  · exact AllB.set (AllB.set hall rfl) hb
  · intro hn s k' hs
    obtain ⟨n', rfl⟩ : ∃ n', n = n' + 1 := ⟨n - 1, by (clear hgl sz; omega)⟩
    exact nx hn s k' hs
end Mine

namespace Mine
section
variable {w : World} {A : Around} {E : Value → Shared → Prop} {Q : Value → Shared → Prop} {t u : Tok} {hp h' : Heap} {gn : Array GenState} {dr : Drawn} {tk : Nat} {os : OsState} {pos : Pos} {k : Nat} {env : Env}
theorem rLSl {value slice : Expr} {l : Addr} {items : Array Value} {vl vu : Value} {lo hi : Option Int} (hl : hp.IsList l items) (pl : IsPart vl lo) (pu : IsPart vu hi) (hsz : items.size ≤ 2 ^ 20)
    (h : Q (.ref (hp.objs.size + 1)) ⟨(hp.push { cls := .type "slice", data := .fields #[vl, vu, .none] }).push { cls := .type "list", data := .seq (slicePick items lo hi none) }, gn, dr, tk, os⟩)
    (hs : subscripted slice false (.ref l) (.ref hp.objs.size) = operate [.ref hp.objs.size, .ref l] (getItem (.ref l) (.ref hp.objs.size)) := by with_unfolding_all rfl)
    (ht : ∀ r, letTemporaryGo value (.ref l) r = pure () := by intro _; with_unfolding_all rfl) :
    wpAny (model PP w) A (subscriptTail value slice (.ref l) (.ref hp.objs.size)) Q E ⟨hp.push { cls := .type "slice", data := .fields #[vl, vu, .none] }, gn, dr, tk, os⟩ := by
  refine subscriptTail_ops (Heap.IsList.typeIs (s := ⟨hp.push { cls := .type "slice", data := .fields #[vl, vu, .none] }, gn, dr, tk, os⟩) (hl.push _)) list_getitem_lookup
    (wpAny_getItem_list_slice (hl.push _) (Heap.IsSliceOf.new ..) pl pu .none (by simp) ?_ (by simp [sizeLine]; omega)) hs ht
  show Q (.ref (hp.push _).objs.size) _
  rw [Heap.size_push]
  exact h
end
theorem rNewLg {w : World} {A : Around} {E : Value → Shared → Prop} {Q : Value → Shared → Prop} {hp : Heap} {gn : Array GenState} {dr : Drawn} {tk : Nat} {os : OsState} {vs : List Value} (P : List Value → Prop) (hP : P vs) (hs : vs.length ≤ 1000)
    (h : ∀ vs, P vs → Q (.ref hp.objs.size) ⟨hp.push (LO vs 0), gn, dr, tk, os⟩) : wpAny (model PP w) A (newList vs) Q E ⟨hp, gn, dr, tk, os⟩ := rNewL (h vs hP) (by simp [sizeLine]; omega)
theorem c_gi1 {w : World} {mg mb : Str → Option Value} {g0 : Heap} (G : Gd w mg mb g0) {A : Around} {R : Result → Shared → Prop} {hp : Heap} {gn : Array GenState} {dr : Drawn} {tk0 : Nat} {os : OsState} (k : OK g0 hp) {l : Addr} {lo N : Nat} {item : Nat → Int} {last : Int} {xs : List Int} {vs : List Value}
  (rm : Rm A 5) (hl : hp.IsList l vs.toArray) (hll : lo ≤ l) (hlog : g0.objs.size ≤ lo) (hN : 0 < N)
  (hvs : IntsAre vs (xs ++ [0])) (hxs : ∀ x ∈ xs, x ≠ 127 ∧ x ≠ 0) (hlen : xs.length ≤ 1000) (hit1 : ∀ i (h : i < xs.length), item i = xs[i]) (hit2 : ∀ i, xs.length ≤ i → item i = last) (hlast : ∃ j, j + 1 = xs.length ∧ xs[j]? = some last)
 (h : ∀ a h' tks gs, OK g0 h' → Kp [] hp h' → hp.objs.size < a → h'.IsGen a gn.size → gs.bare = true → GW w g0 A.in1 N lo hp.objs.size (a + 1) item N h' gs → R (.ok (.ret (.ref a))) ⟨h', gn.push gs, dr, tks, os⟩) :
  codeAny (model PP w) A (.call (.ref aGI) ⟨[.ref l], []⟩) R ⟨hp, gn, dr, tk0, os⟩ :=
  c_gi G k rm hl hll hlog hN hvs hxs hlen hit1 hit2 hlast h
theorem GW.mono {w : World} {g0 : Heap} {A₁ : Around} {N lo C hi n : Nat} {item : Nat → Int} {h h' : Heap} {gs : GenState} (x : GW w g0 A₁ N lo C hi item n h gs) (K : ∀ b o, lo ≤ b → h.get? b = some o → h'.get? b = some o) : GW w g0 A₁ N lo C hi item n h' gs :=
  fun s k q => x s k fun b o hb e => q b o hb (K b o hb e)
theorem FS.callG {g0 g h h' : Heap} {T : List Addr} {L C hi : Addr} {m : Str → Option Value} {nw : List (Addr × Obj)} (F : FS g0 g T L h m nw) (k : OK g0 h') (sz : h.objs.size ≤ h'.objs.size) (K : ∀ b o, Kb C hi b → h.get? b = some o → h'.get? b = some o)
    (hgC : g.objs.size ≤ C) (hghi : g.objs.size ≤ hi) (hL : Kb C hi L) (hn : ∀ p ∈ nw, Kb C hi p.1) : FS g0 g T L h' m nw := by
  refine ⟨k, ⟨Nat.le_trans F.kp.sz sz, fun b o e h1 h2 => K b o ⟨Nat.ne_of_lt (Nat.lt_of_lt_of_le (Heap.lt_size e) hgC), Nat.lt_of_lt_of_le (Heap.lt_size e) hghi⟩ (F.kp.kp b o e h1 h2)⟩, F.g0g, ?_, F.le, fun p hp => K _ _ (hn p hp) (F.nws p hp), F.lo, F.nd, F.nL⟩
  obtain ⟨oL, es, ep, eL, r⟩ := F.ns
  exact ⟨oL, es, ep, K _ _ hL eL, r⟩
end Mine

namespace Mine
theorem gd_of {w : World} {p : Program} {loose : List Str} {mean : ExcName → Option Value} {mg mb : Str → Option Value} {h : Heap} (T : Top p loose mean mg mb h) (KX : (KK w).In h) (hT : ∀ P, P ∈ ([121, 44, 37] : List Addr) → h.get? P = some (tabObj #[]))
    : Gd w mg mb h where
  X := KX
  g := T.g
  b := T.b
  bi := T.builtins
  nl := T.nolimit
  ba := fun P hP => by
    have hP' : h.get? P = some (tabObj #[]) := hT P (by simp only [tabs, List.mem_cons, List.not_mem_nil, or_false] at hP ⊢; rcases hP with rfl | rfl | rfl <;> simp)
    obtain ⟨bm, ob, a, b, c, d, e, f⟩ := T.bmain
    refine ⟨bm, ob, a, b, fun z => ?_, fun z => ?_, c, d, e, f⟩
    · subst z
      obtain ⟨og, es, ep, eg, dg, r⟩ := T.g
      rw [c] at eg
      cases eg
      rw [f] at dg
      cases dg
    · subst z
      rw [c] at hP'
      cases hP'
      cases f
  h1 := codeHd_of_K KX (by kernel_rfl)
  h2 := codeHd_of_K KX (by kernel_rfl)
  h3 := codeHd_of_K KX (by kernel_rfl)
  lt := fun P hP => Heap.lt_size (hT P (by simp only [tabs, List.mem_cons, List.not_mem_nil, or_false] at hP ⊢; rcases hP with rfl | rfl | rfl <;> simp))
  tb := fun P hP => hT P (by simp only [tabs, List.mem_cons, List.not_mem_nil, or_false] at hP ⊢; rcases hP with rfl | rfl | rfl <;> simp)
end Mine

namespace Mine
theorem oldK_of {w : World} {mg mb : Str → Option Value} {g0 h : Heap} (G : Gd w mg mb g0) (k : OK g0 h) : OldK g0 h := by
  have tab : ∀ P ∈ tabs, isCodeTable g0 P ∧ ∃ ps, h.get? P = some (tabObj ps) := by
    intro P hP
    simp only [tabs, List.mem_cons, List.not_mem_nil, or_false] at hP
    rcases hP with rfl | rfl | rfl
    · obtain ⟨ps, e, _⟩ := k.t1
      exact ⟨(G.h1.tab (G.tb _ (by simp [tabs]))).isCodeTable, ps, e⟩
    · obtain ⟨ps, e, _⟩ := k.t2
      exact ⟨(G.h2.tab (G.tb _ (by simp [tabs]))).isCodeTable, ps, e⟩
    · obtain ⟨ps, e, _⟩ := k.t3
      exact ⟨(G.h3.tab (G.tb _ (by simp [tabs]))).isCodeTable, ps, e⟩
  refine ⟨fun b o e => ?_, fun b o e => ?_⟩
  · by_cases hb : b ∈ tabs
    · obtain ⟨ht, ps, hP⟩ := tab b hb
      have e2 := G.tb b hb
      rw [e] at e2
      cases e2
      exact .inr (.inl ⟨ht, rfl, #[], ps, rfl, by rw [Array.empty_append]; exact hP⟩)
    · exact .inl (k.kp b o e hb)
  · by_cases hb : b ∈ tabs
    · obtain ⟨_, ps, hP⟩ := tab b hb
      exact ⟨_, hP⟩
    · exact ⟨o, k.kp b o e hb⟩
theorem law_end {c : ClaimW} {cl : Str → Option Addr} {mean : ExcName → Option Value} {args : List WData} {s₁ : Shared} {w : World} {mg mb : Str → Option Value} {h : Heap} {gn : Array GenState} {d : Drawn} {t : Nat} (G : Gd w mg mb s₁.heap) (k : OK s₁.heap h) (hall : AllB gn)
    (hr : ∀ cls, c.raises args cls = false) (hp : c.post args (.bool true) args = true) : GoodWG c cl mean args s₁ (.ok (.ret (.bool true))) ⟨h, gn, d, t, s₁.os⟩ :=
  ⟨.inl ⟨_, _, [], rfl, hr, ReadsW.bool true, hp, fun _ => ⟨List.nodup_nil, fun _ hm => (nomatch hm)⟩⟩, oldK_of G k, rfl, fun y hy => hall y hy⟩
end Mine

namespace Mine
theorem map_range_getD {α β : Type} (g : α → β) (d : α) : ∀ l : List α, (List.range l.length).map (fun i => g (l.getD i d)) = l.map g
  | [] => rfl
  | a :: l => by
    have ih := map_range_getD g d l
    rw [List.length_cons, List.range_succ_eq_map, List.map_cons, List.map_cons, List.map_map]
    congr 1
theorem tj_len (s : Nat) : ∀ (vs : List (List Nat)), (∀ v ∈ vs, v.length ≤ 64) → (tj s vs).length ≤ 65 * vs.length := by
  intro vs
  induction vs with
  | nil => intro _; simp [tj]
  | cons v vs ih =>
    intro hv
    have h1 := hv v (.head _)
    have h2 := ih fun y hy => hv y (.tail _ hy)
    cases vs with
    | nil => simp [tj] at *; (clear hv; omega)
    | cons v2 r => simp [tj] at *; (clear hv; omega)
theorem sum_len : ∀ (vs : List (List Nat)), (∀ v ∈ vs, v.length ≤ 64) → ((vs.map tx).map (·.length)).sum ≤ 64 * vs.length
  | [], _ => by simp
  | v :: vs, h => by
    have ih := sum_len vs fun y hy => h y (.tail _ hy)
    have h1 : (tx v).length ≤ 64 := by
      show v.toArray.size ≤ 64
      simpa using h v (.head _)
    rw [List.map_cons, List.map_cons, List.sum_cons, List.length_cons]
    omega
theorem words_val (xs : List Nat) : (xs.map word).map wval = xs.map fun (x : Nat) => (x : Int) := by
  rw [List.map_map]
  exact List.map_congr_left fun x _ => word_val x
theorem words_ok {xs : List Nat} (h : ∀ x ∈ xs, x ≠ 0 ∧ x < 2 ^ 60) : ∀ v ∈ xs.map word, v ≠ [] ∧ v.length ≤ 64 ∧ ∀ c ∈ v, Ltr c := by
  intro v hv
  obtain ⟨x, hx, rfl⟩ := List.mem_map.mp hv
  exact word_ok (h x hx).1 (Nat.lt_trans (h x hx).2 (by decide))
theorem hx_len64 {x : Nat} (h0 : x ≠ 0) (h : x < 2 ^ 60) : (hx x).length ≤ 64 := by
  have := (word_ok h0 (Nat.lt_trans h (by decide))).2.1
  unfold word at this
  simpa using this
end Mine

namespace Mine
section
variable {w : World} {A : Around} {E : Value → Shared → Prop} {Q : Value → Shared → Prop} {t u : Tok} {hp h' : Heap} {gn : Array GenState} {dr : Drawn} {tk : Nat} {os : OsState}
theorem rAddL {l b : Addr} {xs ys : List Value} {n n2 : Nat} (hl : hp.get? l = some (LO xs n)) (hb : hp.get? b = some (LO ys n2)) (hsz : xs.length + ys.length ≤ 2 ^ 20)
    (h : Q (.ref hp.objs.size) ⟨hp.push (LO (xs ++ ys) 0), gn, dr, tk, os⟩) : wpAny (model PP w) A (binaryOp .Add (.ref l) (.ref b)) Q E ⟨hp, gn, dr, tk, os⟩ := by
  refine concat_meets ⟨_, hl, rfl⟩ ⟨_, hb, rfl⟩ noFill_list_add seq_list_add PySem.F.slot_list_add PySem.F.entry_list_add (PySem.F.args_list_add_2 _ _) (AutoSeq1.list___add___list_list_0 l xs.toArray n b ys.toArray n2 (by simp [sizeLine]; omega)) ⟨hl, hb, ?_⟩
  simpa using h
end
end Mine

namespace Mine
inductive Al (f : Nat → Value → Prop) : List Nat → List Value → Prop
  | nil : Al f [] []
  | cons {i : Nat} {v : Value} {is : List Nat} {vs : List Value} : f i v → Al f is vs → Al f (i :: is) (v :: vs)
theorem Al.snoc {f : Nat → Value → Prop} {is : List Nat} {vs : List Value} {i : Nat} {v : Value} (h : Al f is vs) (hv : f i v) : Al f (is ++ [i]) (vs ++ [v]) := by
  induction h with
  | nil => exact .cons hv .nil
  | cons a _ ih => exact .cons a ih
theorem Al.length {f : Nat → Value → Prop} {is : List Nat} {vs : List Value} (h : Al f is vs) : vs.length = is.length := by
  induction h with
  | nil => rfl
  | cons _ _ ih => rw [List.length_cons, List.length_cons, ih]
theorem Al.ints {F : Nat → Int} {is : List Nat} {vs : List Value} (h : Al (fun i v => ∃ t, v = .int (F i) t) is vs) : IntsAre vs (is.map F) := by
  induction h with
  | nil => exact .nil
  | cons a _ ih =>
    obtain ⟨t, rfl⟩ := a
    exact .cons _ t ih
theorem Al.strs {F : Nat → Str} {is : List Nat} {vs : List Value} (h : Al (fun i v => ∃ t, v = .str (F i) t) is vs) : StrsAre vs (is.map F) := by
  induction h with
  | nil => exact .nil
  | cons a _ ih =>
    obtain ⟨t, rfl⟩ := a
    exact .cons _ t ih
structure Itr (w : World) (A : Around) (hp : Heap) (it : Addr) (N : Nat) (item : Nat → Value → Prop) (obj : Nat → Obj → Prop) : Prop where
  nc : ∀ i o, obj i o → NC o
  self : ∀ (Q E : Value → Shared → Prop) (s : Shared) i o, obj i o → s.heap.get? it = some o → Q (.ref it) s → wpAny (model PP w) A (pyIter (.ref it)) Q E s
  item : ∀ (Q : Option Value → Shared → Prop) (E : Value → Shared → Prop) (s : Shared) i o, i < N → Kp [it] hp s.heap → s.heap.get? it = some o → obj i o →
    (∀ v o' h' tk, item i v → Heap.SameBut it s.heap h' → h'.get? it = some o' → obj (i + 1) o' → Q (some v) { s with heap := h', toks := tk }) → wpAny (model PP w) A (pyNext (.ref it)) Q E s
  done : ∀ (Q : Option Value → Shared → Prop) (E : Value → Shared → Prop) (s : Shared) o, Kp [it] hp s.heap → s.heap.get? it = some o → obj N o →
    (∀ h', Heap.ExtBut it s.heap h' → Q none { s with heap := h' }) → wpAny (model PP w) A (pyNext (.ref it)) Q E s
abbrev itO (l : Addr) (i : Nat) : Obj := { cls := .type "list_iterator", data := .fields #[.ref l, .int i 0] }
theorem Itr.list {w : World} {A : Around} {hp : Heap} {it l : Addr} {vs : List Value} (hA : A.handled = none) (hl : hp.IsList l vs.toArray) (hlt : l ∉ tabs) (hli : l ≠ it) :
    Itr w A hp it vs.length (fun i v => vs[i]? = some v) (fun i o => o.cls = .type "list_iterator" ∧ o.data = .fields #[.ref l, .int i 0]) where
  nc := fun i o ⟨_, d⟩ vs q t z e => by rw [d] at z; cases z; cases e
  self := fun Q E s i o ⟨c, d⟩ e q => wpAny_pyIter_listiter (l := l) (i := i) ⟨o, e, c, d⟩ q
  item := fun Q E s i o hi K e ⟨c, d⟩ q => by
    obtain ⟨ol, el, r⟩ := hl
    refine wpAny_pyNext_list_item (x := vs[i]) ⟨o, e, c, d⟩ ⟨ol, K.kp _ _ el hlt (fun z => hli (List.mem_singleton.mp z)), r⟩ (by simp [hi]) fun h' x S => ?_
    obtain ⟨o', e', c', d'⟩ := x
    exact q _ o' h' s.toks (by simp [hi]) S e' ⟨c', d'⟩
  done := fun Q E s o K e ⟨c, d⟩ q => by
    obtain ⟨ol, el, r⟩ := hl
    exact wpAny_pyNext_list_end hA ⟨o, e, c, d⟩ ⟨ol, K.kp _ _ el hlt (fun z => hli (List.mem_singleton.mp z)), r⟩ (by simp) q
abbrev rgO (x left : Int) : Obj := { cls := .type "range_iterator", dict := none, data := .fields #[rawInt x, rawInt left, rawInt 1], slots := #[] }
theorem Itr.range {w : World} {A : Around} {hp : Heap} {it : Addr} {N : Nat} (hA : A.handled = none) : Itr w A hp it N (fun i v => ∃ t, v = .int i t) (fun i o => o = rgO i ((N : Int) - i)) where
  nc := fun i o d vs q t z e => by subst d; cases z; cases e
  self := fun Q E s i o d e q => by subst d; exact wpAny_pyIter_rangeiter e q
  item := fun Q E s i o hi K e d q => by
    subst d
    refine wpAny_pyNext_range_item e (by omega) fun h' x S => ?_
    have e1 : (i : Int) + 1 = ((i + 1 : Nat) : Int) := by (clear hi; omega)
    have e2 : (N : Int) - (i : Int) - 1 = (N : Int) - ((i + 1 : Nat) : Int) := by (clear hi e1; omega)
    rw [e1, e2] at x
    exact q _ _ h' _ ⟨_, rfl⟩ S x rfl
  done := fun Q E s o K e d q => by
    subst d
    exact wpAny_pyNext_range_end hA e (by omega) q
section
variable {w : World} {A : Around} {E : Value → Shared → Prop} {Q : Value → Shared → Prop} {t u : Tok} {hp h' : Heap} {gn : Array GenState} {dr : Drawn} {tk : Nat} {os : OsState} {pos : Pos} {k : Nat} {env : Env}
  {g0 g : Heap} {T : List Addr} {L : Addr} {m : Str → Option Value} {nw : List (Addr × Obj)} {mg mb : Str → Option Value}
abbrev LCGoalR (w : World) (A : Around) (elt : Expr) (x : Str) (px : Pos) (iter : Expr) (ifs : List Expr) (rest : List Comprehension) (scope : Scope) (pos : Pos) (env : Env) (cl : List (Str × Addr)) (E : Value → Shared → Prop) (RR : Value → Addr → Result → Shared → Prop) (it : Value) (s : Shared) : Prop :=
  wpAny (model PP w) A (newList []) (fun acc s₃ => wpAny (model PP w) A (newFunctionEnv scope env.globals cl [] env.qual none .none (some env)) (fun cenv s₄ =>
        codeAny (model PP w) A (.compStart (.ListComp elt (⟨.Name x px, iter, ifs, 0⟩ :: rest) scope pos) 0 it acc { cenv with scope := relabel scope env }) (RR acc cenv.locals) s₄) E s₃) E s
abbrev LCGoal (w : World) (A : Around) (elt : Expr) (x : Str) (px : Pos) (iter : Expr) (ifs : List Expr) (rest : List Comprehension) (scope : Scope) (pos : Pos) (env : Env) (cl : List (Str × Addr)) (E Q : Value → Shared → Prop) (it : Value) (s : Shared) : Prop :=
  LCGoalR w A elt x px iter ifs rest scope pos env cl E (compPost (model PP w) A E none Q) it s
theorem rLC2 {elt iter : Expr} {x : Str} {px : Pos} {ifs : List Expr} {rest : List Comprehension} {scope : Scope} {cl : List (Str × Addr)}
    (h : wpAny (model PP w) A (eval iter env) (fun xv s₁ => wpAny (model PP w) A (pyIter xv) (fun it s₂ => LCGoal w A elt x px iter ifs rest scope pos env cl E Q it s₂) E s₁) E ⟨hp, gn, dr, tk, os⟩)
    (hclos : closureFor scope env = pure cl := by rfl) (hkind : scope.kind = .function := by rfl)
    (hnames : (scope.names.all fun y => !(y.2 == .local) || scope.names.lookup y.1 == some .local) = true := by rfl)
    (hs : ∀ x, foldedSetIterable iter env x = pure x := by intro _; rfl) : wpAny (model PP w) A (eval (.ListComp elt (⟨.Name x px, iter, ifs, 0⟩ :: rest) scope pos) env) Q E ⟨hp, gn, dr, tk, os⟩ := by
  rw [eval_ListComp]
  refine wpAny_comprehension_free (use := none) rfl hs hclos hkind (fun y hy hl => ?_) h
  have := List.all_eq_true.mp hnames y hy
  rw [hl] at this
  simpa using this
theorem rLCn {RR : Value → Addr → Result → Shared → Prop} {elt iter : Expr} {x : Str} {px : Pos} {ifs : List Expr} {rest : List Comprehension} {scope : Scope} {cl : List (Str × Addr)} {it : Addr} (k2 : OK g0 hp)
    (self : ∀ {Q : Value → Shared → Prop} {E : Value → Shared → Prop} {h3 tk3}, (∀ b o, hp.get? b = some o → h3.get? b = some o) → Q (.ref it) ⟨h3, gn, dr, tk3, os⟩ → wpAny (model PP w) A (pyIter (.ref it)) Q E ⟨h3, gn, dr, tk3, os⟩)
    (h : ∀ h3 tk3, FS g0 hp T (hp.objs.size + 1) h3 (fun _ => none) [(hp.objs.size, LO [] 0)] → (∀ b o, hp.get? b = some o → h3.get? b = some o) →
      codeAny (model PP w) A (.compLoop (.ListComp elt (⟨.Name x px, iter, ifs, 0⟩ :: rest) scope pos) 0 (.ref it) (.ref hp.objs.size) (compEnvC scope cl (hp.objs.size + 1) env)) (RR (.ref hp.objs.size) (hp.objs.size + 1)) ⟨h3, gn, dr, tk3, os⟩)
    (hcell : (scope.names.all fun y => !(y.2 == .cell)) = true := by rfl) (hkind : scope.kind = .function := by rfl) :
    LCGoalR w A elt x px iter ifs rest scope pos env cl E RR (.ref it) ⟨hp, gn, dr, tk, os⟩ := by
  have hcell' : ∀ y ∈ scope.names, y.2 ≠ .cell := fun y hy => by have q := List.all_eq_true.mp hcell y hy; simpa using q
  refine wpAny_newObj_type (wpAny_newFunctionEnv hcell' (by intro y hy; simp at hy) (fun h₁ hns₁ hsb₁ => ?_) hkind)
  dsimp only at hns₁ hsb₁ ⊢
  have hC : (hp.push { cls := .type "list", dict := none, data := .seq ([] : List Value).toArray }).objs.size = hp.objs.size + 1 := Heap.size_push ..
  rw [hC] at hns₁ hsb₁ ⊢
  have hs1 : hp.objs.size + 1 < h₁.objs.size := ns_lt hns₁
  have kk : ∀ b o, hp.get? b = some o → h₁.get? b = some o := fun b o e => (hsb₁.2 b (Nat.ne_of_lt (Nat.lt_succ_of_lt (Heap.lt_size e)))).trans (Heap.get?_push_of_some _ (Heap.get?_push_of_some _ e))
  have eD : h₁.get? hp.objs.size = some (LO [] 0) := (hsb₁.2 _ (Nat.ne_of_lt (Nat.lt_succ_self _))).trans (Heap.get?_push_of_some _ (Heap.get?_push_size _ rfl))
  have F : FS g0 hp T (hp.objs.size + 1) h₁ (fun _ => none) [] := ⟨k2.ext (by (clear hC; omega)) kk, ⟨by (clear hC; omega), fun b o e _ _ => kk b o e⟩, k2.sz, hns₁, by (clear hC hs1; omega), fun _ q => (nomatch q), fun _ q => (nomatch q), List.nodup_nil, fun _ q => (nomatch q)⟩
  have loop := h h₁ tk (F.add eD (Nat.le_refl _) (fun _ q => (nomatch q)) (Nat.ne_of_lt (Nat.lt_succ_self _))) kk
  exact codeAny_compStart_list loop (self kk loop)
theorem rLCg {RR : Value → Addr → Result → Shared → Prop} {elt iter : Expr} {x : Str} {px : Pos} {scope : Scope} {cl : List (Str × Addr)} {it : Addr} {N : Nat} {item : Nat → Value → Prop} {obj : Nat → Obj → Prop} (f : Nat → Value → Prop) (k2 : OK g0 hp) {o : Obj} (he : hp.get? it = some o) (ho : obj 0 o) (hit0 : g0.objs.size ≤ it)
    (I : Itr w A hp it N item obj) (hN : N ≤ 2 ^ 20) (hall : AllB gn)
    (turn : ∀ i v h1 tk1 m1 nw1 gn1, i < N → item i v → AllB gn1 → FS g0 hp [it] (hp.objs.size + 1) h1 m1 nw1 → m1 x = some v → ∀ (Q2 : Value → Shared → Prop), (∀ y h2 tk2 gn2, f i y → OK g0 h2 → Kp [] h1 h2 → AllB gn2 → Q2 y ⟨h2, gn2, dr, tk2, os⟩) →
      wpAny (model PP w) A (eval elt (compEnvC scope cl (hp.objs.size + 1) env)) Q2 (fun _ _ => False) ⟨h1, gn1, dr, tk1, os⟩)
    (h : ∀ h' tk' gn' mm ys n, FS g0 hp [it] (hp.objs.size + 1) h' mm [(hp.objs.size, LO ys n)] → Al f (List.range N) ys → AllB gn' → RR (.ref hp.objs.size) (hp.objs.size + 1) (.ok .next) ⟨h', gn', dr, tk', os⟩)
    (hcell : (scope.names.all fun y => !(y.2 == .cell)) = true := by rfl) (hkind : scope.kind = .function := by rfl) (hx : (compEnvC scope cl (hp.objs.size + 1) env).kindOf x = some .local := by rfl) :
    LCGoalR w A elt x px iter [] [] scope pos env cl E RR (.ref it) ⟨hp, gn, dr, tk, os⟩ := by
  refine rLCn (T := [it]) k2 (fun {Q E h3 tk3} kk q => I.self Q E _ 0 o ho (kk _ _ he) q) (fun h3 tk3 F kk => ?_) hcell hkind
  have hitl : @Ne Nat it hp.objs.size := Nat.ne_of_lt (Heap.lt_size he)
  have F0 := F.addT (T := [it]) (kk _ _ he) (by simp) hit0 (fun p hp' => by
    cases List.mem_singleton.mp hp'
    exact (Ne.symm hitl)) (Nat.ne_of_lt (Nat.lt_succ_of_lt (Heap.lt_size he)))
  obtain ⟨J, hJ⟩ : ∃ J : Nat → Shared → Prop, J = (fun n s => ∃ i h' tk' gn' mm o ys n2, s = ⟨h', gn', dr, tk', os⟩ ∧ FS g0 hp [it] (hp.objs.size + 1) h' mm [(it, o), (hp.objs.size, LO ys n2)] ∧ obj i o ∧ n + i = N ∧ Al f (List.range i) ys ∧ AllB gn') := ⟨_, rfl⟩
  refine codeAny_compLoop_list J ?_ N (by rw [hJ]; exact ⟨0, h3, tk3, gn, _, o, [], 0, rfl, F0, ho, rfl, .nil, hall⟩)
  intro n s hI
  rw [hJ] at hI
  obtain ⟨i, h1, tk1, gn1, mm, o1, ys, n2, rfl, F1, ho1, hin, hal, hB⟩ := hI
  have hyl : ys.length ≤ 2 ^ 20 := by
    rw [hal.length]
    simp
    (clear hit0 hitl; omega)
  cases n with
  | zero =>
    have : i = N := by (clear hit0 hN hitl hyl; omega)
    subst this
    refine I.done _ _ _ o1 F1.kp (F1.at 0 rfl) ho1 fun h4 E4 => ?_
    have F4 := F1.dropX (I.nc _ _ ho1) E4
    exact h h4 _ gn1 mm ys n2 F4 hal hB
  | succ n =>
    refine I.item _ _ _ i o1 (by (clear hit0 hN hitl hyl; omega)) F1.kp (F1.at 0 rfl) ho1 fun v o2 h4 tk4 hv S4 e4 ho2 => ?_
    have F4 := F1.updS 0 rfl (I.nc _ _ ho1) S4 e4
    refine wpAny_assign_Name ?_
    refine rStS F4 (fun h6 S5 F6 => ?_) rfl hkind hx
    refine wpAny_mono (turn i v h6 _ _ _ gn1 (by (clear hit0 hN hitl hyl; omega)) hv hB F6 (by simp) (fun y s' => f i y ∧ ∃ h2 tk2 gn2, s' = ⟨h2, gn2, dr, tk2, os⟩ ∧ OK g0 h2 ∧ Kp [] h6 h2 ∧ AllB gn2) (fun y h2 tk2 gn2 hy k K B => ⟨hy, h2, tk2, gn2, rfl, k, K, B⟩)) ?_ (fun _ _ z => z.elim)
    rintro y s' ⟨hy, h7, tk7, gn7, rfl, k7, K7, B7⟩
    have F7 := F6.call k7 K7
    refine rAppendS F7 1 rfl hyl fun h8 S8 F8 => ?_
    refine ⟨n, Nat.lt_succ_self _, ?_⟩
    rw [hJ]
    refine ⟨i + 1, h8, _, _, _, _, _, _, rfl, F8, ho2, by (clear hit0 hN hitl hyl; omega), ?_, B7⟩
    rw [List.range_succ]
    exact hal.snoc hy
end
end Mine

section
open PySem.SeqAt PySem.MeetsSeq
namespace Mine
section
variable {w : World} {A : Around} {E : Value → Shared → Prop} {Q : Value → Shared → Prop} {t u : Tok} {hp h' : Heap} {gn : Array GenState} {dr : Drawn} {tk : Nat} {os : OsState} {pos : Pos} {k : Nat} {env : Env}
  {g0 g : Heap} {T : List Addr} {L : Addr} {m : Str → Option Value} {nw : List (Addr × Obj)} {mg mb : Str → Option Value}
theorem tailR {value slice : Expr} {o i : Value} {ty id : String} {ops : List Value} {s : Shared} (hT : s.TypeIs o ty)
    (hl : typeLookup (.type ty) "__getitem__" = pure (some (.builtin id))) (h : wpAny (model PP w) A (getItem o i) Q E s)
    (hs : subscripted slice false o i = operate ops (getItem o i)) : wpAny (model PP w) A (subscriptTail value slice o i) Q E s := by
  unfold subscriptTail
  refine wpAny_bind ?_
  rw [getitemInPython_of_ne hT.not_modules]
  refine wpAny_bind (wpAny_specialOf hT hl ?_)
  have fin : wpAny (model PP w) A (subscripted slice false o i) (fun r s₃ => wpAny (model PP w) A (letTemporaryGo value o r >>= fun _ => pure r) Q E s₃) E s := by
    rw [hs]
    exact wpAny_operating (wpAny_mono h (fun r s₃ h₃ => wpAny_bind (wpAny_letTemporaryGo (wpAny_pure h₃))) fun _ _ x => x)
  first
    | exact wpAny_pure (wpAny_bind fin)
    | exact wpAny_bind (wpAny_pure (wpAny_bind fin))
    | exact wpAny_bind fin
theorem rLSlR {value slice : Expr} {ops : List Value} {l : Addr} {items : Array Value} {vl vu vt : Value} {lo hi st : Option Int} (hl : hp.IsList l items) (pl : IsPart vl lo) (pu : IsPart vu hi) (pt : IsPart vt st) (h0 : st ≠ some 0) (hsz : items.size ≤ 2 ^ 20)
    (h : Q (.ref (hp.objs.size + 1)) ⟨(hp.push { cls := .type "slice", data := .fields #[vl, vu, vt] }).push { cls := .type "list", data := .seq (slicePick items lo hi st) }, gn, dr, tk, os⟩)
    (hs : subscripted slice false (.ref l) (.ref hp.objs.size) = operate ops (getItem (.ref l) (.ref hp.objs.size)) := by with_unfolding_all rfl) :
    wpAny (model PP w) A (subscriptTail value slice (.ref l) (.ref hp.objs.size)) Q E ⟨hp.push { cls := .type "slice", data := .fields #[vl, vu, vt] }, gn, dr, tk, os⟩ := by
  refine tailR (Heap.IsList.typeIs (s := ⟨hp.push { cls := .type "slice", data := .fields #[vl, vu, vt] }, gn, dr, tk, os⟩) (hl.push _)) list_getitem_lookup
    (wpAny_getItem_list_slice (hl.push _) (Heap.IsSliceOf.new ..) pl pu pt h0 ?_ (by simp [sizeLine]; (clear h0; omega))) hs
  show Q (.ref (hp.push _).objs.size) _
  rw [Heap.size_push]
  exact h
theorem rNeg {a : Int} (h : Q (.int (-a) tk) ⟨hp, gn, dr, tk + 1, os⟩) : wpAny (model PP w) A (unaryOp .USub (.int a t)) Q E ⟨hp, gn, dr, tk, os⟩ := neg_int h
theorem rIxI {value slice : Expr} {l : Addr} {vs : List Value} {ns : List Int} {i : Int} (hl : hp.IsList l vs.toArray) (hi : IntsAre vs ns) (n : Nat) (x : Int) (hn : i = n) (hx : ns[n]? = some x) (hb : n < 2 ^ 62) (h : ∀ t, Q (.int x t) ⟨hp, gn, dr, tk, os⟩)
    (hs : subscripted slice false (.ref l) (.int i u) = operate [.ref l, .int i u] (getItem (.ref l) (.int i u)) := by with_unfolding_all rfl) :
    wpAny (model PP w) A (subscriptTail value slice (.ref l) (.int i u)) Q E ⟨hp, gn, dr, tk, os⟩ := by
  subst hn
  have hlt : n < ns.length := (List.getElem?_eq_some_iff.mp hx).1
  refine item_list_intsR hl hi (by (clear hlt; omega)) (by (clear hb; omega)) (by (clear hlt; omega)) (fun t => ?_) hs
  have : ns.getD ((n : Int).toNat) 0 = x := by simp [List.getD, hx]
  rw [this]
  exact h t
theorem rIxN {value slice : Expr} {l : Addr} {vs : List Value} {ns : List Int} {i : Int} (hl : hp.IsList l vs.toArray) (hi : IntsAre vs ns) (n : Nat) (x : Int) (hn : i = - (n : Int)) (hn0 : 0 < n) (hn1 : n ≤ ns.length) (hx : ns[ns.length - n]? = some x) (hb : n < 2 ^ 62) (h : ∀ t, Q (.int x t) ⟨hp, gn, dr, tk, os⟩)
    (hs : subscripted slice false (.ref l) (.int i u) = operate [.ref l, .int i u] (getItem (.ref l) (.int i u)) := by with_unfolding_all rfl) :
    wpAny (model PP w) A (subscriptTail value slice (.ref l) (.int i u)) Q E ⟨hp, gn, dr, tk, os⟩ := by
  subst hn
  refine item_list_ints_negR hl hi (by (clear hn1; omega)) (by (clear hn0 hb; omega)) (by (clear hn1; omega)) (fun t => ?_) hs
  have : ns.getD ((-(n : Int) + ns.length).toNat) 0 = x := by
    have e : (-(n : Int) + ns.length).toNat = ns.length - n := by (clear hn0 hb; omega)
    rw [e]
    simp [List.getD, hx]
  rw [this]
  exact h t
theorem rMod {a b : Int} (c : Int) (hb : b ≠ 0) (e : a.fmod b = c) (h : Q (.int c tk) ⟨hp, gn, dr, tk + 1, os⟩) : wpAny (model PP w) A (binaryOp .Mod (.int a t) (.int b u)) Q E ⟨hp, gn, dr, tk, os⟩ := by
  subst e
  exact AutoIntOps.mod_1 (by simpa using hb) h
theorem rPow {a b : Int} (n : Nat) (c : Int) (hn : b = n) (ha : 2 ≤ a) (hn0 : 0 < n) (hb : Builtin.Int.intBits a * n ≤ 2 ^ 20) (e : a ^ n = c) (h : Q (.int c tk) ⟨hp, gn, dr, tk + 1, os⟩) : wpAny (model PP w) A (binaryOp .Pow (.int a t) (.int b u)) Q E ⟨hp, gn, dr, tk, os⟩ := by
  subst hn
  subst e
  refine AutoIntOps.pow_4 (by (clear ha hb; omega)) (by simp; (clear ha hb; omega)) (by simp; (clear hn0 hb; omega)) (by simp; (clear hn0 hb; omega)) ?_ h
  have : (((Builtin.Int.intBits a : Nat) : Int) * (n : Int)) ≤ 2 ^ 20 := by exact_mod_cast hb
  unfold Builtin.Int.intTooBig
  rw [bitsLine_eq]
  simp
  (clear ha hn0 this; omega)
theorem IntsAre.at {vs : List Value} {ns : List Int} (h : IntsAre vs ns) (j : Nat) (hj : j < vs.length) (hj2 : j < ns.length) : ∃ t, vs[j] = .int ns[j] t := by
  obtain ⟨t, e⟩ := h.get j _ (List.getElem?_eq_getElem hj2)
  refine ⟨t, ?_⟩
  rw [List.getElem?_eq_getElem hj] at e
  exact Option.some.inj e
theorem eqg_int (x : Int) (t u : Tok) (A : Around) (s : Shared) : EqAt A s (.int x t) (.int x u) true := by
  have h := eq_isInt x u (IntsAre.cons x t .nil) (.int x t) (by simp)
  have e : isInt x (.int x t) = true := by simp [isInt]
  rw [e] at h
  exact h.at A s
theorem rEqLL {l b : Addr} {vs vs2 : List Value} {ns : List Int} (hl : hp.IsList l vs.toArray) (hb : hp.IsList b vs2.toArray) (hi : IntsAre vs ns) (hi2 : IntsAre vs2 ns) (rm : Rm A 1)
    (h : Q (.bool true) ⟨hp, gn, dr, tk, os⟩) : wpAny (model PP w) A (compareOp .Eq (.ref l) (.ref b)) Q E ⟨hp, gn, dr, tk, os⟩ := by
  refine eq_listAt (e := fun _ => true) hl hb (by simp [hi.length, hi2.length]) (by have := rm.un; omega) (fun j h1 h2 => ?_) ?_
  · obtain ⟨t, e⟩ := IntsAre.at hi j (by simpa using h1) (by have := hi.length; simp at h1; (clear h2; omega))
    obtain ⟨u, e2⟩ := IntsAre.at hi2 j (by simpa using h2) (by have := hi2.length; simp at h2; omega)
    simp only [List.getElem_toArray, e, e2]
    exact eqg_int _ _ _ _ _
  · have : (List.range vs.toArray.size).all (fun _ => true) = true := by simp
    rw [this]
    exact h
end
end Mine
end

section
open PySem.SeqAt PySem.MeetsSeq
namespace Mine
section
variable {w : World} {A : Around} {E : Value → Shared → Prop} {Q : Value → Shared → Prop} {t u : Tok} {hp h' : Heap} {gn : Array GenState} {dr : Drawn} {tk : Nat} {os : OsState} {pos : Pos} {k : Nat} {env : Env}
  {g0 g : Heap} {T : List Addr} {L : Addr} {m : Str → Option Value} {nw : List (Addr × Obj)} {mg mb : Str → Option Value}
theorem rMulB {a b : Int} (c : Int) (e : a * b = c) (ha : Builtin.Int.intBits a ≤ 2 ^ 20) (hb : Builtin.Int.intBits b ≤ 2 ^ 20) (h : Q (.int c tk) ⟨hp, gn, dr, tk + 1, os⟩) : wpAny (model PP w) A (binaryOp .Mult (.int a t) (.int b u)) Q E ⟨hp, gn, dr, tk, os⟩ :=
  mul_int (by rw [e]; exact h) (IntMulOk.of_bits ha hb)
end
end Mine
end

section
open PySem.SeqAt PySem.MeetsSeq
namespace Mine
section
variable {w : World} {A : Around} {E : Value → Shared → Prop} {Q : Value → Shared → Prop} {t u : Tok} {hp h' : Heap} {gn : Array GenState} {dr : Drawn} {tk : Nat} {os : OsState} {pos : Pos} {k : Nat} {env : Env}
  {g0 g : Heap} {T : List Addr} {L : Addr} {m : Str → Option Value} {nw : List (Addr × Obj)} {mg mb : Str → Option Value}
abbrev TurnG (w : World) (A : Around) (g0 hp : Heap) (dr : Drawn) (os : OsState) (N : Nat) (item f : Nat → Value → Prop) (x : Str) (elt : Expr) (scope : Scope) (cl : List (Str × Addr)) (env : Env) (p : Nat → Bool) : Prop :=
  ∀ C T2 hp2 i v h1 tk1 m1 nw1 gn1, i < N → p i = true → item i v → AllB gn1 → FS g0 hp2 T2 C h1 m1 nw1 → Kp [] hp h1 → m1 x = some v → ∀ (Q2 : Value → Shared → Prop), (∀ y h2 tk2 gn2, f i y → OK g0 h2 → Kp [] h1 h2 → AllB gn2 → Q2 y ⟨h2, gn2, dr, tk2, os⟩) →
      wpAny (model PP w) A (eval elt (compEnvC scope cl C env)) Q2 (fun _ _ => False) ⟨h1, gn1, dr, tk1, os⟩
abbrev TestG (w : World) (A : Around) (g0 hp : Heap) (dr : Drawn) (os : OsState) (N : Nat) (item : Nat → Value → Prop) (p : Nat → Bool) (x : Str) (tst : Expr) (scope : Scope) (cl : List (Str × Addr)) (env : Env) : Prop :=
  ∀ C T2 hp2 i v h1 tk1 m1 nw1 gn1, i < N → item i v → AllB gn1 → FS g0 hp2 T2 C h1 m1 nw1 → Kp [] hp h1 → m1 x = some v → ∀ (Q2 : Bool → Shared → Prop), (∀ h2 tk2 gn2, OK g0 h2 → Kp [] h1 h2 → AllB gn2 → Q2 (p i) ⟨h2, gn2, dr, tk2, os⟩) →
      wpAny (model PP w) A (isTrue tst (compEnvC scope cl C env) (eval tst (compEnvC scope cl C env))) Q2 (fun _ _ => False) ⟨h1, gn1, dr, tk1, os⟩
theorem Kp.drop1 {o : Obj} (K : Kp [hp.objs.size] (hp.push o) h') : Kp [] hp h' :=
  ⟨by have := K.sz; rw [Heap.size_push] at this; omega, fun b ob e q _ => K.kp b ob (Heap.get?_push_of_some _ e) q (fun z => Nat.ne_of_lt (Heap.lt_size e) (List.mem_singleton.mp z))⟩
theorem compN {C D : Addr} {T2 : List Addr} {hp2 h4 : Heap} {mm : Str → Option Value} {ys : List Value} {n : Nat} (F4 : FS g0 hp2 T2 C h4 mm [(D, LO ys n)]) (K : Kp [] hp h4) (hC : hp.objs.size ≤ C)
    (h : ∀ h2, OK g0 h2 → Kp [] hp h2 → h2.get? D = some (LO ys n) → Q (.ref D) ⟨h2, gn, dr, tk, os⟩) : compPost (model PP w) A E none Q (.ref D) C (.ok .next) ⟨h4, gn, dr, tk, os⟩ := by
  refine ⟨_, F4.ns, fun h5 S5 => ?_⟩
  obtain ⟨k5, K5, e5⟩ := F4.out S5
  exact h h5 k5 ⟨Nat.le_trans K.sz (same_sz S5), fun b o e q1 q2 => (S5.2 b (Nat.ne_of_lt (Nat.lt_of_lt_of_le (Heap.lt_size e) hC))).trans (K.kp b o e q1 q2)⟩ (e5 _ (.head _))
theorem compS {QQ : Shared → Prop} {C D : Addr} {T2 : List Addr} {hp2 h4 : Heap} {mm : Str → Option Value} {ys : List Value} {n : Nat} {y : Str} {py : Pos} (F : FS g0 g T L hp m nw) (F4 : FS g0 hp2 T2 C h4 mm [(D, LO ys n)]) (K : Kp [] hp h4) (hC : hp.objs.size ≤ C) (hD : hp.objs.size ≤ D)
    (h : ∀ h2 tk2, FS g0 g T L h2 (fun z => if z = y then some (.ref D) else m z) ((D, LO ys n) :: nw) → QQ ⟨h2, gn, dr, tk2, os⟩)
    (hL : env.locals = L := by rfl) (hk : env.scope.kind = .function := by rfl) (hx : env.kindOf y = some .local := by rfl) :
    compPost (model PP w) A E (some (assign (.Name y py) env)) (fun _ s' => QQ s') (.ref D) C (.ok .next) ⟨h4, gn, dr, tk, os⟩ := by
  have F5 := (F.call F4.ok K).add (F4.at 0 rfl) (Nat.le_trans F.gsz hD) (F.fresh hD).1 (F.fresh hD).2
  have hCD : @Ne Nat D C := F4.nL _ (.head _)
  obtain ⟨oC, es, ep, eC, rC⟩ := id F4.ns
  have F6 := F5.add eC (Nat.le_trans F.gsz hC) (fun p hp' => by
    rcases List.mem_cons.mp hp' with rfl | hp'
    · exact hCD
    · exact (F.fresh hC).1 p hp') (F.fresh hC).2
  have hCL : @Ne Nat C L := (F.fresh hC).2
  refine wpAny_assign_Name ?_
  refine rStS F6 (fun h7 S7 F7 => ?_) hL hk hx
  refine ⟨mm, ns_same F4.ns hCL S7, fun h8 S8 => ?_⟩
  exact h h8 _ (F7.dropX (ns_nc F4.ns _ eC) S8.extBut)
theorem rAsU {y : Str} {py spos : Pos} {elt iter : Expr} {x : Str} {px : Pos} {ifs : List Expr} {rest : List Comprehension} {scope : Scope} {cl : List (Str × Addr)} {stmts : List Stmt} {Q : Flow → Shared → Prop}
    (h : wpAny (model PP w) A (eval iter env) (fun xv s₁ => wpAny (model PP w) A (pyIter xv) (fun it s₂ => LCGoalR w A elt x px iter ifs rest scope pos env cl E (compPost (model PP w) A E (some (assign (.Name y py) env)) (fun _ s' => wpAny (model PP w) A (execs stmts env) Q E s')) it s₂) E s₁) E ⟨hp, gn, dr, tk, os⟩)
    (hsw : swapsWith (.ListComp elt (⟨.Name x px, iter, ifs, 0⟩ :: rest) scope pos) (some (.Name y py)) spos.line env = pure true := by rfl)
    (hclos : closureFor scope env = pure cl := by rfl) (hkind : scope.kind = .function := by rfl)
    (hnames : (scope.names.all fun y => !(y.2 == .local) || scope.names.lookup y.1 == some .local) = true := by rfl)
    (hs : ∀ x, foldedSetIterable iter env x = pure x := by intro _; rfl) :
    wpAny (model PP w) A (execs (.Assign [.Name y py] (.ListComp elt (⟨.Name x px, iter, ifs, 0⟩ :: rest) scope pos) spos :: stmts) env) Q E ⟨hp, gn, dr, tk, os⟩ := by
  refine wpAny_execs_cons ?_
  rw [exec_Assign_Name_used _ _ _ _ hsw]
  refine wpAny_bind (wpAny_standAt (wpAny_bind ?_))
  show wpAny _ A (do let _ ← comprehension (.ListComp elt (⟨.Name x px, iter, ifs, 0⟩ :: rest) scope pos) scope env _ (newList []) false (eval iter env) (some (assign (.Name y py) env))) _ _ _
  refine wpAny_bind (wpAny_mono (wpAny_comprehension_free (use := some (assign (.Name y py) env)) (Q := fun _ s' => wpAny (model PP w) A (execs stmts env) Q E s') rfl hs hclos hkind (fun y hy hl => by
    have := List.all_eq_true.mp hnames y hy
    rw [hl] at this
    simpa using this) h) (fun _ s' hq => wpAny_pure (wpAny_pure hq)) fun _ _ e => e)
theorem rLClR {RR : Value → Addr → Result → Shared → Prop} {elt iter : Expr} {x : Str} {px : Pos} {scope : Scope} {cl : List (Str × Addr)} {l : Addr} {vs : List Value} (f : Nat → Value → Prop) (k2 : OK g0 hp) (hl : hp.IsList l vs.toArray) (hlt : l ∉ tabs) (hN : vs.length ≤ 2 ^ 20) (hA : A.handled = none) (hall : AllB gn)
    (turn : TurnG w A g0 hp dr os vs.length (fun i v => vs[i]? = some v) f x elt scope cl env (fun _ => true))
    (h : ∀ C T2 hp2 D h2 tk2 gn2 mm ys n, FS g0 hp2 T2 C h2 mm [(D, LO ys n)] → Kp [] hp h2 → hp.objs.size ≤ D → hp.objs.size ≤ C → Al f (List.range vs.length) ys → AllB gn2 → RR (.ref D) C (.ok .next) ⟨h2, gn2, dr, tk2, os⟩)
    (hcell : (scope.names.all fun y => !(y.2 == .cell)) = true := by rfl) (hkind : scope.kind = .function := by rfl) (hx : ∀ C, (compEnvC scope cl C env).kindOf x = some .local := by intro _; rfl) :
    wpAny (model PP w) A (pyIter (.ref l)) (fun it s₂ => LCGoalR w A elt x px iter [] [] scope pos env cl E RR it s₂) E ⟨hp, gn, dr, tk, os⟩ := by
  refine wpAny_pyIter_list hl ?_
  have k3 : OK g0 (hp.push (itO l 0)) := k2.ext (by rw [Heap.size_push]; (clear hlt hN; omega)) (fun b o e => Heap.get?_push_of_some _ e)
  refine rLCg f k3 (o := itO l 0) (Heap.get?_push_size _ rfl) ⟨rfl, rfl⟩ k2.sz (Itr.list hA (hl.push _) hlt (by obtain ⟨_, e, _⟩ := hl; exact Nat.ne_of_lt (Heap.lt_size e))) hN hall (fun i v h1 tk1 m1 nw1 gn1 hi hv B F hm Q2 q => turn _ _ _ i v h1 tk1 m1 nw1 gn1 hi ?_ hv B F F.kp.drop1 hm Q2 q) (fun h2 tk2 gn2 mm ys n F al B => h _ _ _ _ h2 tk2 gn2 mm ys n F F.kp.drop1 (by rw [Heap.size_push]; exact Nat.le_succ _) (by rw [Heap.size_push]; exact Nat.le_succ_of_le (Nat.le_succ _)) al B) hcell hkind (hx _)
  rfl
theorem rLCl {elt iter : Expr} {x : Str} {px : Pos} {scope : Scope} {cl : List (Str × Addr)} {l : Addr} {vs : List Value} (f : Nat → Value → Prop) (k2 : OK g0 hp) (hl : hp.IsList l vs.toArray) (hlt : l ∉ tabs) (hN : vs.length ≤ 2 ^ 20) (hA : A.handled = none) (hall : AllB gn)
    (turn : TurnG w A g0 hp dr os vs.length (fun i v => vs[i]? = some v) f x elt scope cl env (fun _ => true))
    (h : ∀ D h2 tk2 gn2 ys n, OK g0 h2 → Kp [] hp h2 → hp.objs.size ≤ D → h2.get? D = some (LO ys n) → Al f (List.range vs.length) ys → AllB gn2 → Q (.ref D) ⟨h2, gn2, dr, tk2, os⟩)
    (hcell : (scope.names.all fun y => !(y.2 == .cell)) = true := by rfl) (hkind : scope.kind = .function := by rfl) (hx : ∀ C, (compEnvC scope cl C env).kindOf x = some .local := by intro _; rfl) :
    wpAny (model PP w) A (pyIter (.ref l)) (fun it s₂ => LCGoal w A elt x px iter [] [] scope pos env cl E Q it s₂) E ⟨hp, gn, dr, tk, os⟩ :=
  rLClR f k2 hl hlt hN hA hall turn (fun C T2 hp2 D h2 tk2 gn2 mm ys n F K hD hC al B => compN F K hC fun h3 k3 K3 e3 => h D h3 tk2 gn2 ys n k3 K3 hD e3 al B) hcell hkind hx
theorem rLCrR {RR : Value → Addr → Result → Shared → Prop} {elt iter : Expr} {x : Str} {px : Pos} {scope : Scope} {cl : List (Str × Addr)} {r : Addr} {N : Nat} {t1 t2 t3 : Tok} (f : Nat → Value → Prop) (k2 : OK g0 hp) (hr : IsRange hp r 0 N 1 t1 t2 t3) (hN : N ≤ 2 ^ 20) (hA : A.handled = none) (hall : AllB gn)
    (turn : TurnG w A g0 hp dr os N (fun i v => ∃ t, v = .int i t) f x elt scope cl env (fun _ => true))
    (h : ∀ C T2 hp2 D h2 tk2 gn2 mm ys n, FS g0 hp2 T2 C h2 mm [(D, LO ys n)] → Kp [] hp h2 → hp.objs.size ≤ D → hp.objs.size ≤ C → Al f (List.range N) ys → AllB gn2 → RR (.ref D) C (.ok .next) ⟨h2, gn2, dr, tk2, os⟩)
    (hcell : (scope.names.all fun y => !(y.2 == .cell)) = true := by rfl) (hkind : scope.kind = .function := by rfl) (hx : ∀ C, (compEnvC scope cl C env).kindOf x = some .local := by intro _; rfl) :
    wpAny (model PP w) A (pyIter (.ref r)) (fun it s₂ => LCGoalR w A elt x px iter [] [] scope pos env cl E RR it s₂) E ⟨hp, gn, dr, tk, os⟩ := by
  refine wpAny_pyIter_range hr (small_one (by decide) (by decide) (by omega) (by omega)) ?_
  rw [rangeSize_one, show (if (0 : Int) < (N : Int) then (N : Int) - 0 else 0) = N by split <;> omega]
  have k3 : OK g0 (hp.push (rgO 0 N)) := k2.ext (by rw [Heap.size_push]; (clear hN; omega)) (fun b o e => Heap.get?_push_of_some _ e)
  refine rLCg f k3 (o := rgO 0 N) (Heap.get?_push_size _ rfl) (by simp) k2.sz (Itr.range hA) hN hall (fun i v h1 tk1 m1 nw1 gn1 hi hv B F hm Q2 q => turn _ _ _ i v h1 tk1 m1 nw1 gn1 hi ?_ hv B F F.kp.drop1 hm Q2 q) (fun h2 tk2 gn2 mm ys n F al B => h _ _ _ _ h2 tk2 gn2 mm ys n F F.kp.drop1 (by rw [Heap.size_push]; exact Nat.le_succ _) (by rw [Heap.size_push]; exact Nat.le_succ_of_le (Nat.le_succ _)) al B) hcell hkind (hx _)
  rfl
theorem rLCr {elt iter : Expr} {x : Str} {px : Pos} {scope : Scope} {cl : List (Str × Addr)} {r : Addr} {N : Nat} {t1 t2 t3 : Tok} (f : Nat → Value → Prop) (k2 : OK g0 hp) (hr : IsRange hp r 0 N 1 t1 t2 t3) (hN : N ≤ 2 ^ 20) (hA : A.handled = none) (hall : AllB gn)
    (turn : TurnG w A g0 hp dr os N (fun i v => ∃ t, v = .int i t) f x elt scope cl env (fun _ => true))
    (h : ∀ D h2 tk2 gn2 ys n, OK g0 h2 → Kp [] hp h2 → hp.objs.size ≤ D → h2.get? D = some (LO ys n) → Al f (List.range N) ys → AllB gn2 → Q (.ref D) ⟨h2, gn2, dr, tk2, os⟩)
    (hcell : (scope.names.all fun y => !(y.2 == .cell)) = true := by rfl) (hkind : scope.kind = .function := by rfl) (hx : ∀ C, (compEnvC scope cl C env).kindOf x = some .local := by intro _; rfl) :
    wpAny (model PP w) A (pyIter (.ref r)) (fun it s₂ => LCGoal w A elt x px iter [] [] scope pos env cl E Q it s₂) E ⟨hp, gn, dr, tk, os⟩ :=
  rLCrR f k2 hr hN hA hall turn (fun C T2 hp2 D h2 tk2 gn2 mm ys n F K hD hC al B => compN F K hC fun h3 k3 K3 e3 => h D h3 tk2 gn2 ys n k3 K3 hD e3 al B) hcell hkind hx
end
end Mine
namespace Mine
section
variable {w : World} {A : Around} {E : Value → Shared → Prop} {t u : Tok} {hp h' : Heap} {gn : Array GenState} {dr : Drawn} {tk : Nat} {os : OsState} {pos : Pos} {k : Nat} {env : Env}
  {g0 g : Heap} {T : List Addr} {L : Addr} {m : Str → Option Value} {nw : List (Addr × Obj)} {mg mb : Str → Option Value}
theorem rRange {n : Int} {Q : Value → Shared → Prop} (h : ∀ t1 t2 tk', IsRange (hp.push { cls := .type "range", data := .fields #[.int 0 t1, .int n t, .int 1 t2] }) hp.objs.size 0 n 1 t1 t t2 → Q (.ref hp.objs.size) ⟨hp.push { cls := .type "range", data := .fields #[.int 0 t1, .int n t, .int 1 t2] }, gn, dr, tk', os⟩) :
    wpAny (model PP w) A (call (.type "range") [.int n t]) Q E ⟨hp, gn, dr, tk, os⟩ := call_range_1 (h _ _ _ (IsRange.new ..))
theorem FS.callA (F : FS g0 g T L hp m nw) (k : OK g0 h') (K : Kp [] hp h') {D : Addr} {o : Obj} (hD : hp.objs.size ≤ D) (e : h'.get? D = some o) : FS g0 g T L h' m ((D, o) :: nw) :=
  (F.call k K).add e (Nat.le_trans F.gsz hD) (F.fresh hD).1 (F.fresh hD).2
theorem Kp.at {b : Addr} {o : Obj} (K : Kp [] hp h') (k : OK g0 hp) (h0 : g0.objs.size ≤ b) (e : hp.get? b = some o) : h'.get? b = some o := K.kp b o e (k.nt h0) List.not_mem_nil
end
end Mine
namespace Mine
theorem fmod_nat (a b : Nat) : ((a : Int)).fmod b = ((a % b : Nat) : Int) := by
  rw [Int.fmod_eq_emod_of_nonneg _ (Int.natCast_nonneg _)]
  exact (Int.natCast_emod a b).symm
end Mine
end

namespace Mine
def addsh : Nat → List Nat → List Nat
  | p, [] => [p]
  | p, x :: l => (p + x) :: addsh x l
def cof : Nat → List Nat → List Nat
  | 0, l => l
  | m + 1, l => addsh 0 (cof m l)
def nsum (n : Nat) : List Nat → Nat
  | [] => 0
  | d :: r => d + 2 ^ n * nsum n r
theorem addsh_len : ∀ p l, (addsh p l).length = l.length + 1
  | _, [] => rfl
  | _, x :: l => by simp [addsh, addsh_len x l]
theorem cof_len : ∀ m l, (cof m l).length = l.length + m
  | 0, _ => rfl
  | m + 1, l => by rw [cof, addsh_len, cof_len m l]; omega
theorem nsum_addsh (n : Nat) : ∀ p l, nsum n (addsh p l) = p + (2 ^ n + 1) * nsum n l
  | p, [] => by simp [addsh, nsum]
  | p, x :: l => by
    rw [addsh, nsum, nsum_addsh n x l, nsum]
    generalize 2 ^ n = B
    generalize nsum n l = y
    have e1 : B * (x + (B + 1) * y) = B * x + B * ((B + 1) * y) := Nat.mul_add ..
    have e2 : (B + 1) * (x + B * y) = (B * x + x) + (B + 1) * (B * y) := by rw [Nat.mul_add, Nat.add_mul, Nat.one_mul]
    have e3 : (B + 1) * (B * y) = B * ((B + 1) * y) := by rw [← Nat.mul_assoc, ← Nat.mul_assoc, Nat.mul_comm (B + 1) B]
    rw [e1, e2, e3]
    (clear e1 e2 e3; omega)
theorem nsum_cof (n : Nat) : ∀ m l, nsum n (cof m l) = nsum n l * (2 ^ n + 1) ^ m
  | 0, l => by simp [cof]
  | m + 1, l => by
    rw [cof, nsum_addsh, nsum_cof n m l, Nat.zero_add, Nat.pow_succ, Nat.mul_comm, Nat.mul_assoc]
theorem dsum_nsum (n : Nat) : ∀ l : List Nat, dsum n (l.map fun (x : Nat) => (x : Int)) = (nsum n l : Nat)
  | [] => rfl
  | d :: r => by
    rw [List.map_cons, dsum, dsum_nsum n r, nsum]
    push_cast
    rfl
theorem digs_nsum (n : Nat) : ∀ l : List Nat, (∀ d ∈ l, d < 2 ^ n) → digs n l.length (nsum n l) = l.map fun (x : Nat) => (x : Int)
  | [], _ => rfl
  | d :: r, h => by
    have hd := h d (.head _)
    have ih := digs_nsum n r fun y hy => h y (.tail _ hy)
    have e1 : (d + 2 ^ n * nsum n r) % 2 ^ n = d := by rw [Nat.add_mul_mod_self_left, Nat.mod_eq_of_lt hd]
    have e2 : (d + 2 ^ n * nsum n r) / 2 ^ n = nsum n r := by rw [Nat.add_mul_div_left _ _ (Nat.two_pow_pos n), Nat.div_eq_of_lt hd, Nat.zero_add]
    rw [List.length_cons, nsum, digs, e1, e2, ih, List.map_cons]
theorem nsum_lt (n : Nat) : ∀ l : List Nat, (∀ d ∈ l, d < 2 ^ n) → nsum n l < 2 ^ (n * l.length)
  | [], _ => by simp [nsum]
  | d :: r, h => by
    have hd := h d (.head _)
    have ih := nsum_lt n r fun y hy => h y (.tail _ hy)
    have e : 2 ^ (n * (d :: r).length) = 2 ^ n * 2 ^ (n * r.length) := by rw [List.length_cons, Nat.mul_add, Nat.mul_one, Nat.add_comm, Nat.pow_add]
    rw [e, nsum]
    have : 2 ^ n * (nsum n r + 1) ≤ 2 ^ n * 2 ^ (n * r.length) := Nat.mul_le_mul_left _ ih
    rw [Nat.mul_add] at this
    (clear ih e; omega)
theorem nsum_ge (n : Nat) : ∀ l : List Nat, l ≠ [] → (∀ d ∈ l, 1 ≤ d) → 2 ^ (n * (l.length - 1)) ≤ nsum n l
  | [], h, _ => absurd rfl h
  | [d], _, h => by have := h d (.head _); simp [nsum]; omega
  | d :: e :: r, _, h => by
    have ih := nsum_ge n (e :: r) (List.cons_ne_nil _ _) fun y hy => h y (.tail _ hy)
    have e1 : n * ((d :: e :: r).length - 1) = n + n * ((e :: r).length - 1) := by
      rw [List.length_cons, List.length_cons, Nat.add_sub_cancel, Nat.add_sub_cancel, Nat.mul_add, Nat.mul_one, Nat.add_comm]
    rw [e1, Nat.pow_add, nsum]
    have := Nat.mul_le_mul_left (2 ^ n) ih
    (clear ih e1; omega)
theorem nsum_cnt {n : Nat} (hn : 0 < n) {l : List Nat} (h0 : l ≠ []) (h1 : ∀ d ∈ l, 1 ≤ d) (h2 : ∀ d ∈ l, d < 2 ^ n) : cnt n (nsum n l) = l.length := by
  have b1 := bits_nat (nsum_lt n l h2)
  have b2 : ¬ Builtin.Int.intBits ((nsum n l : Nat) : Int) ≤ n * (l.length - 1) := fun q => by
    have := intBits_le_iff.mp q
    rw [Int.natAbs_natCast] at this
    exact absurd (nsum_ge n l h0 h1) (Nat.not_le.mpr this)
  have hl : 1 ≤ l.length := by
    cases l with
    | nil => exact absurd rfl h0
    | cons a r => simp
  show (Builtin.Int.intBits ((nsum n l : Nat) : Int) + n - 1) / n = _
  generalize Builtin.Int.intBits ((nsum n l : Nat) : Int) = b at *
  obtain ⟨k, hk⟩ : ∃ k, l.length = k + 1 := ⟨l.length - 1, by (clear hn h0 b1 b2; omega)⟩
  rw [hk] at b1 b2 ⊢
  have e2 : n * (k + 1 - 1) = n * k := by rw [Nat.add_sub_cancel]
  rw [e2] at b2
  rw [Nat.mul_add, Nat.mul_one] at b1
  apply Nat.le_antisymm
  · exact Nat.lt_succ_iff.mp ((Nat.div_lt_iff_lt_mul hn).mpr (by rw [Nat.succ_mul, Nat.add_mul, Nat.one_mul, Nat.mul_comm k n]; (clear h0 hl b2 hk; omega)))
  · exact (Nat.le_div_iff_mul_le hn).mpr (by rw [Nat.add_mul, Nat.one_mul, Nat.mul_comm k n]; (clear h0 hl b1 hk; omega))
theorem addsh_bd {M : Nat} : ∀ p l, p ≤ M → (1 ≤ p ∨ l ≠ []) → (∀ x ∈ l, 1 ≤ x ∧ x ≤ M) → ∀ x ∈ addsh p l, 1 ≤ x ∧ x ≤ 2 * M
  | p, [], hp, h, _ => fun x hx => by
    cases List.mem_singleton.mp hx
    exact ⟨h.elim id (fun q => absurd rfl q), by (clear h; omega)⟩
  | p, y :: l, hp, _, hl => fun x hx => by
    have hy := hl y (.head _)
    rcases List.mem_cons.mp hx with rfl | hx
    · omega
    · exact addsh_bd y l hy.2 (.inl hy.1) (fun z hz => hl z (.tail _ hz)) x hx
theorem cof_ne {m : Nat} {l : List Nat} (h : l ≠ []) : cof m l ≠ [] := fun q => by
  have := cof_len m l
  rw [q] at this
  cases l with
  | nil => exact h rfl
  | cons a r => simp at this; (clear h; omega)
theorem cof_bd {M : Nat} : ∀ m l, l ≠ [] → (∀ x ∈ l, 1 ≤ x ∧ x ≤ M) → ∀ x ∈ cof m l, 1 ≤ x ∧ x ≤ 2 ^ m * M
  | 0, l, _, h => by simpa [cof] using h
  | m + 1, l, h0, h => by
    have := addsh_bd 0 (cof m l) (Nat.zero_le _) (.inr (cof_ne h0)) (cof_bd m l h0 h)
    intro x hx
    have := this x hx
    rw [Nat.pow_succ, Nat.mul_comm (2 ^ m) 2, Nat.mul_assoc]
    exact this
def sg (i x : Nat) : Int := if i % 2 = 1 then -(x : Int) else x
theorem sg_succ (i x : Nat) : sg (i + 1) x = - sg i x := by
  unfold sg
  by_cases h : i % 2 = 1
  · rw [if_pos h, if_neg (by omega)]; (clear h; omega)
  · rw [if_neg h, if_pos (by omega)]
theorem sg_add (i x y : Nat) : sg i (x + y) = sg i x + sg i y := by
  unfold sg
  by_cases h : i % 2 = 1
  · rw [if_pos h, if_pos h, if_pos h]; (clear h; omega)
  · rw [if_neg h, if_neg h, if_neg h]; (clear h; omega)
def ST (q k : Nat) : Nat → List Nat → Int
  | _, [] => 0
  | i, x :: l => (if i % q = k then sg i x else 0) + ST q k (i + 1) l
theorem prev_iff {q k i : Nat} (hk : k < q) : ((i + 1) % q = k) ↔ (i % q = (k + q - 1) % q) := by
  have hq : 1 ≤ q := Nat.le_trans (Nat.succ_le_succ (Nat.zero_le k)) hk
  have e1 : i + q = (i + 1) + (q - 1) := by rw [Nat.add_assoc, Nat.add_sub_cancel' hq]
  have e2 : k + q - 1 = k + (q - 1) := Nat.add_sub_assoc hq k
  have e3 : k + (q - 1) + 1 = k + q := by rw [Nat.add_assoc, Nat.sub_add_cancel hq]
  constructor
  · intro h
    rw [← Nat.add_mod_right i q, e1, ← Nat.mod_add_mod, h, e2]
  · intro h
    rw [← Nat.mod_add_mod, h, Nat.mod_add_mod, e2, e3, Nat.add_mod_right, Nat.mod_eq_of_lt hk]
theorem ST_addsh {q k : Nat} (hk : k < q) : ∀ i p l, ST q k i (addsh p l) = (if i % q = k then sg i p else 0) + ST q k i l - ST q ((k + q - 1) % q) i l
  | i, p, [] => by simp [addsh, ST]
  | i, p, x :: l => by
    have ih := ST_addsh hk (i + 1) x l
    rw [addsh, ST, ih, ST, ST, sg_succ]
    have hp := prev_iff (i := i) hk
    by_cases h1 : i % q = k
    · rw [if_pos h1, if_pos h1, if_pos h1, sg_add]
      by_cases h2 : (i + 1) % q = k
      · rw [if_pos h2, if_pos (hp.mp h2)]; (clear hk ih hp h1 h2; omega)
      · rw [if_neg h2, if_neg (fun z => h2 (hp.mpr z))]; (clear hk ih hp h1 h2; omega)
    · rw [if_neg h1, if_neg h1, if_neg h1]
      by_cases h2 : (i + 1) % q = k
      · rw [if_pos h2, if_pos (hp.mp h2)]; (clear hk ih hp h1 h2; omega)
      · rw [if_neg h2, if_neg (fun z => h2 (hp.mpr z))]; (clear hk ih hp h1 h2; omega)
theorem ST_row {q k : Nat} (hk : k < q) : ∀ i l, i + l.length ≤ q → ST q k i l = if i ≤ k then sg k (l.getD (k - i) 0) else 0
  | i, [], _ => by simp [ST, sg]
  | i, x :: l, h => by
    rw [List.length_cons] at h
    have ih := ST_row hk (i + 1) l (by (clear hk; omega))
    rw [ST, ih, Nat.mod_eq_of_lt (by (clear hk ih; omega) : i < q)]
    by_cases h1 : i = k
    · subst h1
      rw [if_pos rfl, if_neg (by (clear h hk ih; omega)), if_pos (Nat.le_refl _), Nat.sub_self]
      simp
    · rw [if_neg h1]
      by_cases h2 : i ≤ k
      · rw [if_pos (by (clear hk h ih; omega)), if_pos h2, show k - i = (k - (i + 1)) + 1 from (Nat.sub_add_cancel (Nat.sub_pos_of_lt (Nat.lt_of_le_of_ne h2 h1))).symm]
        simp
      · rw [if_neg (by (clear hk h ih h1; omega)), if_neg h2]; rfl
theorem ST_append {q k : Nat} : ∀ i l₁ l₂, ST q k i (l₁ ++ l₂) = ST q k i l₁ + ST q k (i + l₁.length) l₂
  | i, [], l₂ => by simp [ST]
  | i, x :: l, l₂ => by
    rw [List.cons_append, ST, ST_append (i + 1) l l₂, ST, List.length_cons, Int.add_assoc, show i + 1 + l.length = i + (l.length + 1) from by omega]
theorem ST_zero {q k : Nat} : ∀ i l, (∀ j, i ≤ j → j < i + l.length → j % q ≠ k) → ST q k i l = 0
  | _, [], _ => rfl
  | i, x :: l, h => by
    rw [ST, if_neg (h i (Nat.le_refl _) (by simp)), ST_zero (i + 1) l (fun j h1 h2 => h j (by (clear h2; omega)) (by rw [List.length_cons]; (clear h1; omega)))]
    rfl
def STt (q k : Nat) (l : List Nat) (a : Nat) : Int := ST q k 0 (l.take a)
theorem STt_all {q k : Nat} {l : List Nat} {a : Nat} (h : l.length ≤ a) : STt q k l a = ST q k 0 l := by unfold STt; rw [List.take_of_length_le h]
theorem STt_skip {q k : Nat} {l : List Nat} {a b : Nat} (hab : a ≤ b) (h : ∀ j, a ≤ j → j < b → j % q ≠ k) : STt q k l b = STt q k l a := by
  unfold STt
  have e : l.take b = l.take a ++ (l.drop a).take (b - a) := by
    have := List.take_add (l := l) (i := a) (j := b - a)
    rwa [Nat.add_sub_cancel' hab] at this
  rw [e, ST_append, ST_zero (0 + (List.take a l).length), Int.add_zero]
  intro j h1 h2
  rw [List.length_take, List.length_take, List.length_drop, Nat.zero_add] at h2
  rw [List.length_take, Nat.zero_add] at h1
  by_cases hl : a ≤ l.length
  · rw [Nat.min_eq_left hl] at h1 h2
    exact h j h1 (Nat.lt_of_lt_of_le h2 (Nat.le_trans (Nat.add_le_add_left (Nat.min_le_left _ _) _) (Nat.le_of_eq (Nat.add_sub_cancel' hab))))
  · rw [Nat.sub_eq_zero_of_le (Nat.le_of_not_le hl), Nat.min_eq_right (Nat.zero_le _), Nat.add_zero] at h2
    exact absurd h1 (Nat.not_le.mpr h2)
theorem STt_one {q k : Nat} {l : List Nat} {a x : Nat} (hx : l[a]? = some x) (hk : a % q = k) : STt q k l (a + 1) = STt q k l a + sg a x := by
  unfold STt
  have hl : a < l.length := (List.getElem?_eq_some_iff.mp hx).1
  have e : l.take (a + 1) = l.take a ++ [x] := by
    rw [List.take_add_one, hx]; rfl
  rw [e, ST_append, List.length_take, Nat.min_eq_left (by (clear hk; omega)), Nat.zero_add, ST, ST, if_pos hk, Int.add_zero]
end Mine

namespace Mine
def stz (l : List Int) : List Int := (List.range l.length).map fun k => l.getD k 0 - l.getD ((k + l.length - 1) % l.length) 0
def itz : Nat → List Int → List Int
  | 0, l => l
  | m + 1, l => stz (itz m l)
def ring0 (q : Nat) (row : List Nat) : List Int := (List.range q).map fun k => sg k (row.getD k 0)
theorem stz_len (l : List Int) : (stz l).length = l.length := by simp [stz]
theorem itz_len : ∀ m l, (itz m l).length = l.length
  | 0, _ => rfl
  | m + 1, l => by rw [itz, stz_len, itz_len m l]
theorem getD_map_range (q k : Nat) (f : Nat → Int) (h : k < q) : ((List.range q).map f).getD k 0 = f k := by
  simp [List.getD, h]
theorem ring_eq {q : Nat} {row : List Nat} (hq : 0 < q) (hr : row.length = q) : ∀ m, (List.range q).map (fun k => ST q k 0 (cof m row)) = itz m (ring0 q row)
  | 0 => by
    unfold itz ring0 cof
    refine List.map_congr_left fun k hk => ?_
    have hk := List.mem_range.mp hk
    rw [ST_row hk 0 row (by (clear hq hk; omega)), if_pos (Nat.zero_le _), Nat.sub_zero]
  | m + 1 => by
    have ih := ring_eq hq hr m
    rw [itz, ← ih]
    unfold stz
    rw [List.length_map, List.length_range]
    refine List.map_congr_left fun k hk => ?_
    have hk := List.mem_range.mp hk
    have hk2 : (k + q - 1) % q < q := Nat.mod_lt _ hq
    rw [getD_map_range _ _ _ hk, getD_map_range _ _ _ hk2]
    show ST q k 0 (addsh 0 (cof m row)) = _
    rw [ST_addsh hk]
    have : (if 0 % q = k then sg 0 0 else 0) = 0 := by split <;> simp [sg]
    rw [this]
    (clear hq hr hk hk2 this; omega)
def lsub : List Int → List Int → List Int
  | [], ys => ys.map fun y => -y
  | xs, [] => xs
  | x :: xs, y :: ys => (x - y) :: lsub xs ys
def dot : List Int → List Int → Int
  | [], _ => 0
  | _, [] => 0
  | x :: xs, a :: as => x * a + dot xs as
theorem dot_neg : ∀ ys as, dot (ys.map fun y => -y) as = - dot ys as
  | [], _ => rfl
  | _ :: _, [] => rfl
  | y :: ys, a :: as => by rw [List.map_cons, dot, dot, dot_neg ys as, Int.neg_mul]; omega
theorem dot_nil : ∀ xs, dot xs [] = 0
  | [] => rfl
  | _ :: _ => rfl
theorem dot_sub : ∀ xs ys as, dot (lsub xs ys) as = dot xs as - dot ys as
  | [], ys, as => by
    have : lsub [] ys = ys.map fun y => -y := by cases ys <;> rfl
    rw [this, dot_neg]
    show _ = (0 : Int) - _
    omega
  | x :: xs, [], as => by
    show dot (x :: xs) as = dot (x :: xs) as - 0
    omega
  | x :: xs, y :: ys, [] => rfl
  | x :: xs, y :: ys, a :: as => by
    rw [lsub, dot, dot, dot, dot_sub xs ys as, Int.sub_mul]
    omega
def stw (l : List (List Int)) : List (List Int) := (List.range l.length).map fun k => lsub (l.getD k []) (l.getD ((k + l.length - 1) % l.length) [])
def itw : Nat → List (List Int) → List (List Int)
  | 0, l => l
  | m + 1, l => stw (itw m l)
def unit (q k : Nat) : List Int := (List.range q).map fun j => if j = k then 1 else 0
def units (q : Nat) : List (List Int) := (List.range q).map (unit q)
theorem getD_map_dot (a : List Int) (l : List (List Int)) (k : Nat) : (l.map fun w => dot w a).getD k 0 = dot (l.getD k []) a := by
  simp only [List.getD, List.getElem?_map]
  cases l[k]? <;> rfl
theorem itw_dot (a : List Int) (u : List (List Int)) : ∀ m, (itw m u).map (fun w => dot w a) = itz m (u.map fun w => dot w a)
  | 0 => rfl
  | m + 1 => by
    have ih := itw_dot a u m
    rw [itw, itz, ← ih]
    unfold stw stz
    rw [List.map_map, List.length_map]
    refine List.map_congr_left fun k _ => ?_
    show dot (lsub _ _) a = _
    rw [dot_sub, getD_map_dot, getD_map_dot]
theorem dot_shift (a0 : Int) : ∀ (n : Nat) (f : Nat → Int) (as : List Int), dot ((List.range (n + 1)).map f) (a0 :: as) = f 0 * a0 + dot ((List.range n).map fun j => f (j + 1)) as := by
  intro n f as
  rw [List.range_succ_eq_map, List.map_cons, dot, List.map_map]
  rfl
theorem dot_zero : ∀ (as : List Int) (n : Nat), dot ((List.range n).map fun _ => 0) as = 0
  | [], n => dot_nil _
  | a :: as, 0 => rfl
  | a :: as, n + 1 => by rw [dot_shift, dot_zero as n]; omega
theorem dot_unit : ∀ (as : List Int) (k : Nat), dot (unit as.length k) as = as.getD k 0
  | [], k => by simp [unit, dot]
  | a :: as, 0 => by
    unfold unit
    rw [List.length_cons, dot_shift]
    have : ((List.range as.length).map fun j => if j + 1 = 0 then (1 : Int) else 0) = (List.range as.length).map fun _ => 0 := List.map_congr_left fun j _ => if_neg (by omega)
    rw [this, dot_zero]
    simp
  | a :: as, k + 1 => by
    have ih := dot_unit as k
    unfold unit at ih ⊢
    rw [List.length_cons, dot_shift]
    have : ((List.range as.length).map fun j => if j + 1 = k + 1 then (1 : Int) else 0) = (List.range as.length).map fun j => if j = k then 1 else 0 := List.map_congr_left fun j _ => by
      by_cases h : j = k
      · rw [if_pos h, if_pos (by (clear ih; omega))]
      · rw [if_neg h, if_neg (by (clear ih; omega))]
    rw [this, ih, if_neg (by (clear ih; omega))]
    simp
theorem range_getD : ∀ (a : List Int), (List.range a.length).map (fun k => a.getD k 0) = a := fun a => by
  refine List.ext_getElem (by simp) fun i h1 h2 => ?_
  simp [List.getD, h2]
theorem units_dot (a : List Int) : (units a.length).map (fun w => dot w a) = a := by
  unfold units
  rw [List.map_map]
  have : ((fun w => dot w a) ∘ unit a.length) = fun k => a.getD k 0 := by
    funext k
    exact dot_unit a k
  rw [this, range_getD]
theorem dot_dvd {M : Int} : ∀ (w as : List Int), (∀ x ∈ w, x % M = 0) → dot w as % M = 0
  | [], _, _ => by simp [dot]
  | _ :: _, [], _ => by simp [dot]
  | x :: xs, a :: as, h => by
    have h1 := h x (.head _)
    have ih := dot_dvd xs as fun y hy => h y (.tail _ hy)
    have d1 : M ∣ x * a := Int.dvd_mul_of_dvd_left (Int.dvd_of_emod_eq_zero h1)
    have d2 := Int.dvd_of_emod_eq_zero ih
    rw [dot]
    exact Int.emod_eq_zero_of_dvd (Int.dvd_add d1 d2)
def pw (q p n : Nat) : Nat := p ^ ((n - q / p) / (q - q / p))
def okW (q p n : Nat) : Bool := (itw n (units q)).all fun w => w.all fun x => x % (pw q p n : Int) == 0
theorem ok33 : ((List.range 10).all fun n => okW 3 3 (n + 1)) = true := by decide +kernel
theorem ok22 : ((List.range 10).all fun n => okW 2 2 (n + 1)) = true := by decide +kernel
theorem ok42 : ((List.range 10).all fun n => okW 4 2 (n + 1)) = true := by decide +kernel
theorem ok55 : ((List.range 10).all fun n => okW 5 5 (n + 1)) = true := by decide +kernel
theorem ok82 : ((List.range 10).all fun n => okW 8 2 (n + 1)) = true := by decide +kernel
theorem ok93 : ((List.range 10).all fun n => okW 9 3 (n + 1)) = true := by decide +kernel
def Shp (q p : Nat) : Prop := (q, p) ∈ [(3, 3), (2, 2), (4, 2), (5, 5), (8, 2), (9, 3)]
theorem okW_of {q p n : Nat} (h : Shp q p) (h1 : 1 ≤ n) (h2 : n ≤ 10) : okW q p n = true := by
  have use : ∀ {q p}, ((List.range 10).all fun n => okW q p (n + 1)) = true → okW q p n = true := fun {q p} h => by
    have := List.all_eq_true.mp h (n - 1) (List.mem_range.mpr (by omega))
    rwa [show n - 1 + 1 = n from by omega] at this
  unfold Shp at h
  simp only [List.mem_cons, Prod.mk.injEq, List.not_mem_nil, or_false] at h
  rcases h with ⟨rfl, rfl⟩ | ⟨rfl, rfl⟩ | ⟨rfl, rfl⟩ | ⟨rfl, rfl⟩ | ⟨rfl, rfl⟩ | ⟨rfl, rfl⟩
  · exact use ok33
  · exact use ok22
  · exact use ok42
  · exact use ok55
  · exact use ok82
  · exact use ok93
theorem weis {q p n : Nat} (h : Shp q p) (h1 : 1 ≤ n) (h2 : n ≤ 10) {a : List Int} (ha : a.length = q) : ∀ x ∈ itz n a, x % (pw q p n : Int) = 0 := by
  have hw := okW_of h h1 h2
  unfold okW at hw
  rw [← units_dot a, ← itw_dot, ha]
  intro x hx
  obtain ⟨w, hwm, rfl⟩ := List.mem_map.mp hx
  refine dot_dvd w a fun y hy => ?_
  have := List.all_eq_true.mp (List.all_eq_true.mp hw w hwm) y hy
  simpa using this
end Mine

section
open PySem.SeqAt PySem.MeetsSeq
namespace Mine
section
variable {w : World} {A : Around} {E : Value → Shared → Prop} {Q : Value → Shared → Prop} {t u : Tok} {hp h' : Heap} {gn : Array GenState} {dr : Drawn} {tk : Nat} {os : OsState} {pos : Pos} {k : Nat} {env : Env}
  {g0 g : Heap} {T : List Addr} {L : Addr} {m : Str → Option Value} {nw : List (Addr × Obj)} {mg mb : Str → Option Value}
theorem turn_in (elt : Expr) (g₀ : Comprehension) (target iter : Expr) (scope : Scope) (pos : Pos) (it acc : Value) (env : Env) :
    compTurn (.ListComp elt [g₀, ⟨target, iter, [], 0⟩] scope pos) 1 it acc env = (standAt iter.pos >>= fun _ => pyNext it >>= fun r => match r with
      | none => pure (.done .next)
      | some v => letOwnedTupleGo target it v >>= fun _ => assign target env v >>= fun _ =>
        (eval elt env >>= fun x => call (.builtin "list.append") [acc, x] >>= fun _ => pure ()) >>= fun _ =>
          again (.compLoop (.ListComp elt [g₀, ⟨target, iter, [], 0⟩] scope pos) 1 it acc env)) := by rfl
theorem turn_out (elt : Expr) (target iter target1 iter1 : Expr) (scope : Scope) (pos : Pos) (it acc : Value) (env : Env) :
    compTurn (.ListComp elt [⟨target, iter, [], 0⟩, ⟨target1, iter1, [], 0⟩] scope pos) 0 it acc env = (standAt iter.pos >>= fun _ => pyNext it >>= fun r => match r with
      | none => pure (.done .next)
      | some v => letOwnedTupleGo target it v >>= fun _ => assign target env v >>= fun _ =>
        eval iter1 env >>= fun x => standAt iter1.pos >>= fun _ => foldedSetIterable iter1 env x >>= fun x => holding [x] (pyIter x) >>= fun it2 =>
          runOwn (.compStart (.ListComp elt [⟨target, iter, [], 0⟩, ⟨target1, iter1, [], 0⟩] scope pos) 1 it2 acc env) env >>= fun _ =>
          again (.compLoop (.ListComp elt [⟨target, iter, [], 0⟩, ⟨target1, iter1, [], 0⟩] scope pos) 0 it acc env)) := by rfl
theorem loop_in {elt target iter : Expr} {g₀ : Comprehension} {scope : Scope} {pos : Pos} {it acc : Value} {env : Env} {R : Result → Shared → Prop} {s : Shared} (I : Nat → Shared → Prop)
    (turn : ∀ n s, I n s → wpAny (model PP w) A (pyNext it) (fun r s₁ => match r with
      | none => R (.ok .next) s₁
      | some v => wpAny (model PP w) A (assign target env v) (fun _ s₂ => wpAny (model PP w) A (eval elt env) (fun x s₃ =>
          wpAny (model PP w) A (call (.builtin "list.append") [acc, x]) (fun _ s₄ => ∃ m, m < n ∧ I m s₄) (fun _ _ => False) s₃) (fun _ _ => False) s₂) (fun _ _ => False) s₁) (fun _ _ => False) s)
    (n : Nat) (h : I n s) (ht : ∀ v, letOwnedTupleGo target it v = pure () := by intro _; rfl) :
    codeAny (model PP w) A (.compLoop (.ListComp elt [g₀, ⟨target, iter, [], 0⟩] scope pos) 1 it acc env) R s := by
  refine codeAny_loop rfl I (fun n s hI => ?_) n h
  show wpAny _ _ ((compTurn (.ListComp elt [g₀, ⟨target, iter, [], 0⟩] scope pos) 1 it acc env).onRaise (fun x => do noteFrame x env; theTreesLotGoes x)) _ _ s
  refine wpAny_noted ?_
  rw [turn_in]
  refine wpAny_bind (wpAny_standAt (wpAny_bind (wpAny_mono (turn n s hI) (fun r s₁ h₁ => ?_) fun _ _ h' => h'.elim)))
  cases r with
  | none => exact wpAny_pure h₁
  | some v =>
    refine wpAny_bind (wpAny_of_eq (ht v) ?_)
    exact wpAny_bind (wpAny_mono h₁ (fun _ s₂ h₂ => wpAny_bind (wpAny_bind (wpAny_mono h₂ (fun x s₃ h₃ => wpAny_bind (wpAny_mono h₃
      (fun _ s₄ h₄ => wpAny_pure (wpAny_pure ⟨rfl, h₄⟩)) fun _ _ h' => h'.elim)) fun _ _ h' => h'.elim))) fun _ _ h' => h'.elim)
theorem start_in {elt target iter : Expr} {g₀ : Comprehension} {scope : Scope} {pos : Pos} {it acc : Value} {env : Env} {R : Result → Shared → Prop} {s : Shared}
    (h0 : codeAny (model PP w) A (.compLoop (.ListComp elt [g₀, ⟨target, iter, [], 0⟩] scope pos) 1 it acc env) R s)
    (h : wpAny (model PP w) A (pyIter it) (fun it' s' => codeAny (model PP w) A (.compLoop (.ListComp elt [g₀, ⟨target, iter, [], 0⟩] scope pos) 1 it' acc env) R s') (fun _ _ => False) s) :
    codeAny (model PP w) A (.compStart (.ListComp elt [g₀, ⟨target, iter, [], 0⟩] scope pos) 1 it acc env) R s := by
  refine codeAny_of_tree ?_
  show wpAny _ _ ((compStart (.ListComp elt [g₀, ⟨target, iter, [], 0⟩] scope pos) 1 it acc env).onRaise (fun x => do noteFrame x env; standAt theWindowsPlace)) _ _ s
  refine wpAny_notedAt ?_
  unfold compStart
  show wpAny _ _ (ask >>= _) _ _ s
  refine wpAny_bind (wpAny_askSetting (wpAny_ite ?_))
  split
  · first
      | exact wpAny_bind (wpAny_pure (wpAny_pure (And.intro rfl h0)))
      | exact wpAny_pure (And.intro rfl h0)
  · first
      | exact wpAny_bind (wpAny_rule (wpAny_bind (wpAny_standAt (wpAny_bind (wpAny_mono h (fun it' s' h' => wpAny_pure (And.intro rfl h')) fun _ _ x => x.elim)))))
      | (refine wpAny_bind (wpAny_rule ?_); show wpAny _ _ (standAt iter.pos >>= _) _ _ s; exact wpAny_bind (wpAny_standAt (wpAny_bind (wpAny_mono h (fun it' s' h' => wpAny_pure (And.intro rfl h')) fun _ _ x => x.elim))))
theorem loop_out {elt target iter target1 iter1 : Expr} {scope : Scope} {pos : Pos} {it acc : Value} {env : Env} {R : Result → Shared → Prop} {s : Shared} (I : Nat → Shared → Prop)
    (turn : ∀ n s, I n s → wpAny (model PP w) A (pyNext it) (fun r s₁ => match r with
      | none => R (.ok .next) s₁
      | some v => wpAny (model PP w) A (assign target env v) (fun _ s₂ => wpAny (model PP w) A (eval iter1 env) (fun x s₃ => wpAny (model PP w) A (pyIter x) (fun it2 s₄ =>
          codeAny (model PP w) (A.mark none) (.compStart (.ListComp elt [⟨target, iter, [], 0⟩, ⟨target1, iter1, [], 0⟩] scope pos) 1 it2 acc env) (fun r s' => match r with | .ok _ => ∃ m, m < n ∧ I m s' | .error _ => False) s₄) (fun _ _ => False) s₃) (fun _ _ => False) s₂) (fun _ _ => False) s₁) (fun _ _ => False) s)
    (n : Nat) (h : I n s) (ht : ∀ v, letOwnedTupleGo target it v = pure () := by intro _; rfl) (hs : ∀ x, foldedSetIterable iter1 env x = pure x := by intro _; rfl) :
    codeAny (model PP w) A (.compLoop (.ListComp elt [⟨target, iter, [], 0⟩, ⟨target1, iter1, [], 0⟩] scope pos) 0 it acc env) R s := by
  refine codeAny_loop rfl I (fun n s hI => ?_) n h
  show wpAny _ _ ((compTurn (.ListComp elt [⟨target, iter, [], 0⟩, ⟨target1, iter1, [], 0⟩] scope pos) 0 it acc env).onRaise (fun x => do noteFrame x env; theTreesLotGoes x)) _ _ s
  refine wpAny_noted ?_
  rw [turn_out]
  refine wpAny_bind (wpAny_standAt (wpAny_bind (wpAny_mono (turn n s hI) (fun r s₁ h₁ => ?_) fun _ _ h' => h'.elim)))
  cases r with
  | none => exact wpAny_pure h₁
  | some v =>
    refine wpAny_bind (wpAny_of_eq (ht v) ?_)
    refine wpAny_bind (wpAny_mono h₁ (fun _ s₂ h₂ => wpAny_bind (wpAny_mono h₂ (fun x s₃ h₃ => wpAny_bind (wpAny_standAt ?_)) fun _ _ h' => h'.elim)) fun _ _ h' => h'.elim)
    refine wpAny_bind (wpAny_of_eq (hs x) ?_)
    refine wpAny_bind (wpAny_holding (wpAny_mono h₃ (fun it2 s₄ h₄ => ?_) fun _ _ h' => h'.elim))
    refine wpAny_bind (wpAny_runOwn (codeAny_mono h₄ fun r s' hr => ?_))
    cases r with
    | ok f => exact wpAny_pure ⟨rfl, hr⟩
    | error e => exact hr.elim
end
end Mine
end

section
open PySem.SeqAt PySem.MeetsSeq
namespace Mine
abbrev TO (a : Int) (u : Tok) (b : Int) (v : Tok) : Obj := { cls := .type "tuple", data := .seq #[.int a u, .int b v] }
section
variable {w : World} {A : Around} {E : Value → Shared → Prop} {Q : Value → Shared → Prop} {t u : Tok} {hp h' : Heap} {gn : Array GenState} {dr : Drawn} {tk : Nat} {os : OsState} {pos : Pos} {k : Nat} {env : Env}
  {g0 g : Heap} {T : List Addr} {L : Addr} {m : Str → Option Value} {nw nw' : List (Addr × Obj)} {mg mb : Str → Option Value}
theorem FS.perm (F : FS g0 g T L hp m nw) (p : nw'.Perm nw) : FS g0 g T L hp m nw' where
  ok := F.ok
  kp := F.kp
  g0g := F.g0g
  ns := F.ns
  le := F.le
  nws := fun q hq => F.nws q (p.subset hq)
  lo := fun q hq => F.lo q (p.subset hq)
  nd := (p.map (·.1)).nodup_iff.mpr F.nd
  nL := fun q hq => F.nL q (p.subset hq)
theorem rTupI {a b : Int} {k1 k2 : Nat} {p1 p2 : Pos} (F : FS g0 g T L hp m nw) (h : ∀ D h2 tk2 u1 u2, FS g0 g T L h2 m ((D, TO a u1 b u2) :: nw) → Q (.ref D) ⟨h2, gn, dr, tk2, os⟩) :
    wpAny (model PP w) A (eval (.Tuple [.Constant (.int a) k1 p1, .Constant (.int b) k2 p2] k pos) env) Q E ⟨hp, gn, dr, tk, os⟩ := by
  refine Tuple_ ?_
  refine spliced_more ?_
  refine rI ?_
  refine spliced_more ?_
  refine rI ?_
  refine spliced_none ?_
  refine rNewT ?_ (by simp [sizeLine])
  exact h _ _ _ tk (tk + 1) (F.psh (TO a tk b (tk + 1)))
theorem rTupC {x y : Str} {px py pt : Pos} {t : Addr} {a b : Value} {Q : Unit → Shared → Prop} (F : FS g0 g T L hp m nw) (hA : A.handled = none) (ht : hp.IsTuple t #[a, b]) {c : Addr} (i : Nat) {o : Obj} {v₀ : Option Value} (hc : env.cells.lookup x = some c) (hi : nw[i]? = some (c, o)) (hd : o.data = .cell v₀)
    (h : ∀ h' tk' o', o'.data = .cell (some a) → FS g0 g T L h' (fun z => if z = y then some b else m z) (nw.set i (c, o')) → Q () ⟨h', gn, dr, tk', os⟩)
    (hL : env.locals = L := by rfl) (hk : env.scope.kind = .function := by rfl) (hx : env.kindOf x = some .cell := by rfl) (hy : env.kindOf y = some .local := by rfl) :
    wpAny (model PP w) A (assign (.Tuple [.Name x px, .Name y py] k pt) env (.ref t)) Q E ⟨hp, gn, dr, tk, os⟩ := by
  refine wpAny_assign_Tuple hA ht rfl rfl fun h' hx' => ?_
  have F1 := F.extN hx'
  refine wpAny_assignInOrder_more (wpAny_assign_Name ?_)
  refine rSC F1 i hc hi hd (fun h2 o2 d2 S2 F2 => ?_) hk hx
  refine wpAny_assignInOrder_more (wpAny_assign_Name ?_)
  refine rSt F2 (fun h3 F3 => ?_) hL hk hy
  exact wpAny_assignInOrder_none (h h3 _ o2 d2 F3)
theorem rIxV {value slice : Expr} {l : Addr} {vs : List Value} {i : Int} {x : Value} (hl : hp.IsList l vs.toArray) (n : Nat) (hn : i = n) (hx : vs[n]? = some x) (hb : n < 2 ^ 62) (h : Q x ⟨hp, gn, dr, tk, os⟩)
    (hs : subscripted slice false (.ref l) (.int i u) = operate [.ref l, .int i u] (getItem (.ref l) (.int i u)) := by with_unfolding_all rfl) :
    wpAny (model PP w) A (subscriptTail value slice (.ref l) (.int i u)) Q E ⟨hp, gn, dr, tk, os⟩ := by
  subst hn
  exact item_listR hl (by omega) (by omega) (by simpa using hx) h hs
theorem rPowN {a b : Int} (p n : Nat) (hp2 : 2 ≤ p) (ha : a = p) (hn : b = n) (hb : Builtin.Int.intBits (p : Int) * n ≤ 2 ^ 20) (h : Q (.int ((p ^ n : Nat) : Int) tk) ⟨hp, gn, dr, tk + 1, os⟩) : wpAny (model PP w) A (binaryOp .Pow (.int a t) (.int b u)) Q E ⟨hp, gn, dr, tk, os⟩ := by
  subst ha
  by_cases h0 : n = 0
  · subst h0
    subst hn
    refine AutoIntOps.pow_0 (by decide) (by rfl) ?_
    rw [Nat.pow_zero] at h
    exact h
  · exact rPow n _ hn (by (clear hn hb h0; omega)) (by (clear hp2 hn hb; omega)) hb (Int.natCast_pow p n).symm h
theorem rMax {a b : Int} (F : FS g0 g T L hp m nw) (hA : A.handled = none) (h : ∀ h' tk', FS g0 g T L h' m nw → Q (if b > a then .int b u else .int a t) ⟨h', gn, dr, tk', os⟩) : wpAny (model PP w) A (call (.builtin "max") [.int a t, .int b u]) Q E ⟨hp, gn, dr, tk, os⟩ :=
  max_two_ints hA (fun h' tk' hx => h h' tk' (F.extX hx))
theorem compS2 {QQ : Shared → Prop} {C D : Addr} {T2 : List Addr} {hp2 h4 : Heap} {mm : Str → Option Value} {ys : List Value} {n : Nat} {y : Str} {py : Pos} {TL : List (Addr × Obj)} (F : FS g0 g T L hp m nw) (F4 : FS g0 hp2 T2 C h4 mm ((D, LO ys n) :: TL)) (K : Kp [] hp h4) (hC : hp.objs.size ≤ C) (hD : hp.objs.size ≤ D) (hTL : ∀ p ∈ TL, hp.objs.size ≤ p.1)
    (h : ∀ h2 tk2, FS g0 g T L h2 (fun z => if z = y then some (.ref D) else m z) ((D, LO ys n) :: nw) → (∀ p ∈ TL, h2.get? p.1 = some p.2) → QQ ⟨h2, gn, dr, tk2, os⟩)
    (hL : env.locals = L := by rfl) (hk : env.scope.kind = .function := by rfl) (hx : env.kindOf y = some .local := by rfl) :
    compPost (model PP w) A E (some (assign (.Name y py) env)) (fun _ s' => QQ s') (.ref D) C (.ok .next) ⟨h4, gn, dr, tk, os⟩ := by
  have F5 := (F.call F4.ok K).add (F4.at 0 rfl) (Nat.le_trans F.gsz hD) (F.fresh hD).1 (F.fresh hD).2
  have hCD : @Ne Nat D C := F4.nL _ (.head _)
  obtain ⟨oC, es, ep, eC, rC⟩ := id F4.ns
  have F6 := F5.add eC (Nat.le_trans F.gsz hC) (fun p hp' => by
    rcases List.mem_cons.mp hp' with rfl | hp'
    · exact hCD
    · exact (F.fresh hC).1 p hp') (F.fresh hC).2
  have hCL : @Ne Nat C L := (F.fresh hC).2
  refine wpAny_assign_Name ?_
  refine rStS F6 (fun h7 S7 F7 => ?_) hL hk hx
  refine ⟨mm, ns_same F4.ns hCL S7, fun h8 S8 => ?_⟩
  refine h h8 _ (F7.dropX (ns_nc F4.ns _ eC) S8.extBut) fun p hp' => ?_
  exact (S8.2 _ (F4.nL p (.tail _ hp'))).trans ((S7.2 _ (F.fresh (hTL p hp')).2).trans (F4.nws p (.tail _ hp')))
theorem rEqTT {l b : Addr} {vs vs2 : List Value} {N : Nat} {X Y : Nat → Int} (hl : hp.IsList l vs.toArray) (hb : hp.IsList b vs2.toArray) (h1 : vs.length = N) (h2 : vs2.length = N)
    (ht : ∀ j, j < N → ∃ a1 a2 u1 u2 u3 u4, vs[j]? = some (.ref a1) ∧ vs2[j]? = some (.ref a2) ∧ a1 ≠ a2 ∧ hp.IsTuple a1 #[.int (X j) u1, .int (Y j) u2] ∧ hp.IsTuple a2 #[.int (X j) u3, .int (Y j) u4]) (rm : Rm A 2)
    (h : Q (.bool true) ⟨hp, gn, dr, tk, os⟩) : wpAny (model PP w) A (compareOp .Eq (.ref l) (.ref b)) Q E ⟨hp, gn, dr, tk, os⟩ := by
  refine eq_listAt (e := fun _ => true) hl hb (by simp [h1, h2]) (by have := rm.un; (clear h1 h2; omega)) (fun j j1 j2 => ?_) ?_
  · obtain ⟨a1, a2, u1, u2, u3, u4, e1, e2, hne, t1, t2⟩ := ht j (by simpa [h1] using j1)
    simp only [List.getElem_toArray]
    rw [List.getElem?_eq_getElem (by simpa using j1)] at e1
    rw [List.getElem?_eq_getElem (by simpa using j2)] at e2
    rw [Option.some.inj e1, Option.some.inj e2]
    refine EqAt.of_refs hne ?_
    have := RcAt.tuples (A := A.in1) (s := ⟨hp, gn, dr, tk, os⟩) (e := fun _ => true) t1 t2 (by have := rm.un; simp only [Around.in1_units]; (clear h1 h2 hne; omega)) (fun i i1 i2 => by
      have hi : i < 2 := by simpa using i1
      match i with
      | 0 => exact eqg_int _ _ _ _ _
      | 1 => exact eqg_int _ _ _ _ _
      | i + 2 => (clear h1 h2 hne; omega))
    exact this
  · have : (List.range vs.toArray.size).all (fun _ => true) = true := by simp
    rw [this]
    exact h
end
end Mine
end

section
open PySem.SeqAt PySem.MeetsSeq
namespace Mine
structure TLs (TL : List (Addr × Obj)) (ys : List Value) (c : Nat) (X Y : Nat → Int) : Prop where
  ys : ys = TL.map fun p => Value.ref p.1
  len : TL.length = c
  at' : ∀ (j : Nat) (p : Addr × Obj), TL[j]? = some p → p.2.cls = Value.type "tuple" ∧ ∃ n u1 u2, p.2.data = Data.seq #[.int (X j) u1, .int (Y j) u2] n
theorem TLs.nil (X Y : Nat → Int) : TLs [] [] 0 X Y := ⟨rfl, rfl, fun _ _ e => by simp at e⟩
theorem TLs.snoc {TL : List (Addr × Obj)} {ys : List Value} {c : Nat} {X Y : Nat → Int} (h : TLs TL ys c X Y) {t : Addr} {o : Obj} (hc : o.cls = .type "tuple") (hd : ∃ n u1 u2, o.data = .seq #[.int (X c) u1, .int (Y c) u2] n) : TLs (TL ++ [(t, o)]) (ys ++ [.ref t]) (c + 1) X Y := by
  refine ⟨by rw [h.ys, List.map_append]; rfl, by rw [List.length_append, h.len]; rfl, fun j p e => ?_⟩
  by_cases hj : j < TL.length
  · rw [List.getElem?_append_left hj] at e
    exact h.at' j p e
  · rw [List.getElem?_append_right (by omega)] at e
    have hj0 : j - TL.length = 0 := by
      have := (List.getElem?_eq_some_iff.mp e).1
      simp at this
      (clear hj; omega)
    rw [hj0] at e
    cases e
    have : j = c := by have := h.len; omega
    subst this
    exact ⟨hc, hd⟩
section
variable {w : World} {A : Around} {E : Value → Shared → Prop} {t u : Tok} {hp h' : Heap} {gn : Array GenState} {dr : Drawn} {tk : Nat} {os : OsState} {pos : Pos} {k : Nat} {env : Env}
  {g0 g : Heap} {T : List Addr} {L : Addr} {m : Str → Option Value} {nw nw' : List (Addr × Obj)} {mg mb : Str → Option Value}
theorem rNest {RR : Value → Addr → Result → Shared → Prop} {elt iter iter1 : Expr} {x x1 : Str} {px px1 : Pos} {scope : Scope} {cl : List (Str × Addr)} {l : Addr} {vs : List Value} {ns : List Int} (X Y : Nat → Int) (k2 : OK g0 hp) (hl : hp.IsList l vs.toArray) (hi : IntsAre vs ns) (hlt : l ∉ tabs) (hN : ns.length ≤ 100) (hA : A.handled = none) (hall : AllB gn) (hxx : x ≠ x1)
    (ev1 : ∀ C T2 hp2 h1 tk1 m1 nw1 gn1, FS g0 hp2 T2 C h1 m1 nw1 → ∀ Q2 : Value → Shared → Prop, (∀ h2 tk2 r t1 t2 t3, OK g0 h2 → Kp [] h1 h2 → IsRange h2 r 0 2 1 t1 t2 t3 → Q2 (.ref r) ⟨h2, gn1, dr, tk2, os⟩) → wpAny (model PP w) A (eval iter1 (compEnvC scope cl C env)) Q2 (fun _ _ => False) ⟨h1, gn1, dr, tk1, os⟩)
    (turn : ∀ C T2 hp2 i kk h1 tk1 m1 nw1 gn1 tA tB, i < ns.length → kk < 2 → AllB gn1 → FS g0 hp2 T2 C h1 m1 nw1 → Kp [] hp h1 → m1 x = some (.int (ns.getD i 0) tA) → m1 x1 = some (.int (kk : Nat) tB) → ∀ Q2 : Value → Shared → Prop,
      (∀ t o h2 tk2 gn2, OK g0 h2 → Kp [] h1 h2 → h1.objs.size ≤ t → h2.get? t = some o → o.cls = .type "tuple" → (∃ n u1 u2, o.data = .seq #[.int (X (2 * i + kk)) u1, .int (Y (2 * i + kk)) u2] n) → AllB gn2 → Q2 (.ref t) ⟨h2, gn2, dr, tk2, os⟩) →
      wpAny (model PP w) A (eval elt (compEnvC scope cl C env)) Q2 (fun _ _ => False) ⟨h1, gn1, dr, tk1, os⟩)
    (h : ∀ C T2 hp2 D h2 tk2 gn2 mm ys n TL, FS g0 hp2 T2 C h2 mm ((D, LO ys n) :: TL) → Kp [] hp h2 → hp.objs.size ≤ D → hp.objs.size ≤ C → (∀ p ∈ TL, hp.objs.size ≤ p.1) → TLs TL ys (2 * ns.length) X Y → AllB gn2 → RR (.ref D) C (.ok .next) ⟨h2, gn2, dr, tk2, os⟩)
    (hcell : (scope.names.all fun y => !(y.2 == .cell)) = true := by rfl) (hkind : scope.kind = .function := by rfl) (hx : ∀ C, (compEnvC scope cl C env).kindOf x = some .local := by intro _; rfl) (hx1 : ∀ C, (compEnvC scope cl C env).kindOf x1 = some .local := by intro _; rfl)
    (hs1 : ∀ C v, foldedSetIterable iter1 (compEnvC scope cl C env) v = pure v := by intro _ _; rfl) :
    wpAny (model PP w) A (pyIter (.ref l)) (fun it s₂ => LCGoalR w A elt x px iter [] [⟨.Name x1 px1, iter1, [], 0⟩] scope pos env cl E RR it s₂) E ⟨hp, gn, dr, tk, os⟩ := by
  refine wpAny_pyIter_list hl ?_
  dsimp only
  have k3 : OK g0 (hp.push (itO l 0)) := k2.ext (by rw [Heap.size_push]; (clear hlt hN hxx; omega)) (fun b o e => Heap.get?_push_of_some _ e)
  have e3 : (hp.push (itO l 0)).get? hp.objs.size = some (itO l 0) := Heap.get?_push_size _ rfl
  have hlli : @Ne Nat l hp.objs.size := by obtain ⟨_, e, _⟩ := hl; exact Nat.ne_of_lt (Heap.lt_size e)
  have I : Itr w A (hp.push (itO l 0)) hp.objs.size vs.length _ _ := Itr.list hA (hl.push _) hlt hlli
  have kd : ∀ {h' : Heap}, Kp [hp.objs.size] (hp.push (itO l 0)) h' → Kp [] hp h' := fun K => K.drop1
  have hs3 : (hp.push (itO l 0)).objs.size = hp.objs.size + 1 := Heap.size_push ..
  have hvl := hi.length
  generalize hh3 : hp.push (itO l 0) = hp3 at *
  generalize hit : hp.objs.size = it at *
  refine rLCn (T := [it]) k3 (fun {Q E h3 tk3} kk q => wpAny_pyIter_listiter (l := l) (i := 0) ⟨_, kk _ _ e3, rfl, rfl⟩ q) (fun h3 tk3 F kk => ?_) hcell hkind
  have hitl : @Ne Nat it hp3.objs.size := by (clear hlt hN hxx hvl hit hlli; omega)
  have hit0 : g0.objs.size ≤ it := by have := k2.sz; (clear hlt hN hxx hvl hlli hitl; omega)
  have F0 := F.addT (T := [it]) (kk _ _ e3) (by simp) hit0 (fun p hp' => by
    cases List.mem_singleton.mp hp'
    exact (Ne.symm hitl)) (by show @Ne Nat it (hp3.objs.size + 1); (clear hlt hN hxx hvl hit hlli hitl hit0; omega))
  generalize hC : hp3.objs.size + 1 = C at *
  generalize hD : hp3.objs.size = D at *
  obtain ⟨J, hJ⟩ : ∃ J : Nat → Shared → Prop, J = (fun n s => ∃ i h' tk' gn' mm o ys n2 TL, s = ⟨h', gn', dr, tk', os⟩ ∧ FS g0 hp3 [it] C h' mm ((it, o) :: (D, LO ys n2) :: TL) ∧ (o.cls = .type "list_iterator" ∧ o.data = .fields #[.ref l, .int (i : Nat) 0]) ∧ n + i = vs.length ∧ TLs TL ys (2 * i) X Y ∧ (∀ p ∈ TL, it ≤ p.1) ∧ AllB gn') := ⟨_, rfl⟩
  refine loop_out J ?_ vs.length (by rw [hJ]; exact ⟨0, h3, tk3, gn, _, _, [], 0, [], rfl, F0, ⟨rfl, rfl⟩, rfl, TLs.nil X Y, (fun _ q => nomatch q), hall⟩) (fun v => rfl) (hs1 C)
  intro n s hI
  rw [hJ] at hI
  obtain ⟨i, h1, tk1, gn1, mm, o1, ys, n2, TL, rfl, F1, ho1, hin, hTL, hge, hB⟩ := hI
  cases n with
  | zero =>
    have : i = vs.length := by (clear hlt hN hxx hvl hit hlli hit0 hD hs3 hitl hC ho1; omega)
    subst this
    refine I.done _ _ _ o1 F1.kp (F1.at 0 rfl) ho1 fun h4 E4 => ?_
    have F4 := F1.dropX (I.nc _ _ ho1) E4
    refine h C [it] hp3 D h4 _ gn1 mm ys n2 TL F4 (kd F4.kp) (by (clear hlt hN hxx hvl hit hlli hit0 hD hitl hC ho1 hin; omega)) (by (clear hlt hN hxx hvl hit hlli hit0 hD hitl ho1 hin; omega)) hge (by rw [← hvl]; exact hTL) hB
  | succ n =>
    refine I.item _ _ _ i o1 (by (clear hlt hN hxx hvl hit hlli hit0 hD hs3 hitl hC ho1; omega)) F1.kp (F1.at 0 rfl) ho1 fun v o2 h4 tk4 hv S4 e4 ho2 => ?_
    have F4 := F1.updS 0 rfl (I.nc _ _ ho1) S4 e4
    refine wpAny_assign_Name ?_
    refine rStS F4 (fun h5 S5 F5 => ?_) rfl hkind (hx C)
    refine ev1 C _ _ h5 _ _ _ gn1 F5 _ fun h6 tk6 r t1 t2 t3 k6 K6 hr6 => ?_
    have F6 := F5.call k6 K6
    refine wpAny_pyIter_range hr6 (by rfl) ?_
    have F7 := F6.psh (rgO 0 2)
    have e7 : IsRangeIter (h6.push (rgO 0 2)) h6.objs.size ((0 : Nat) : Int) ((2 : Int) - ((0 : Nat) : Int)) 1 := Heap.get?_push_size _ rfl
    have hge6 : it ≤ h6.objs.size := by have := F6.kp.sz; (clear hlt hN hxx hvl hit hlli hit0 hitl ho1 hin ho2; omega)
    dsimp only
    show codeAny (model PP w) A (.compStart _ 1 (.ref h6.objs.size) _ _) _ ⟨h6.push (rgO 0 2), gn1, dr, tk6, os⟩
    generalize h6.objs.size = it2 at *
    generalize h6.push (rgO 0 2) = h7 at *
    have hilt : i < ns.length := by (clear hlt hN hxx hit hlli hit0 hD hs3 hitl hC ho1 ho2 hge6; omega)
    obtain ⟨tA, hvA⟩ := hi.get i _ (List.getElem?_eq_getElem hilt)
    rw [hv] at hvA
    cases hvA
    have hgd : ns.getD i 0 = ns[i] := by simp [List.getD, List.getElem?_eq_getElem hilt]
    have loop : codeAny (model PP w) A (.compLoop (.ListComp elt [⟨.Name x px, iter, [], 0⟩, ⟨.Name x1 px1, iter1, [], 0⟩] scope pos) 1 (.ref it2) (.ref D) (compEnvC scope cl C env)) (fun r s' => match r with | .ok _ => ∃ m, m < n + 1 ∧ J m s' | .error _ => False) ⟨h7, gn1, dr, tk6, os⟩ := by
      obtain ⟨J2, hJ2⟩ : ∃ J2 : Nat → Shared → Prop, J2 = (fun a s => ∃ (c : Nat) (h' : Heap) (tk' : Nat) (gn' : Array GenState) (mm : Str → Option Value) (o : Obj) (ys : List Value) (n2 : Nat) (TL : List (Addr × Obj)), s = ⟨h', gn', dr, tk', os⟩ ∧ FS g0 hp3 [it] C h' mm ((it2, o) :: (it, o2) :: (D, LO ys n2) :: TL) ∧ o = rgO (c : Nat) ((2 : Int) - (c : Nat)) ∧ a + c = 2 ∧ TLs TL ys (2 * i + c) X Y ∧ (∀ p ∈ TL, it ≤ p.1) ∧ mm x = some (.int ns[i] tA) ∧ AllB gn') := ⟨_, rfl⟩
      refine loop_in J2 ?_ 2 (by rw [hJ2]; exact ⟨0, h7, _, gn1, _, _, ys, n2, TL, rfl, F7, rfl, rfl, hTL, hge, by simp, hB⟩)
      intro a s hI2
      rw [hJ2] at hI2
      obtain ⟨c, h8, tk8, gn8, mm8, o8, ys8, n8, TL8, rfl, F8, rfl, hac, hTL8, hge8, hmx, hB8⟩ := hI2
      have hys8 : ys8.length ≤ 2 ^ 20 := by rw [hTL8.ys, List.length_map, hTL8.len]; (clear hlt hxx hit hlli hit0 hD hs3 hitl hC ho1 ho2 hge6 hgd; omega)
      cases a with
      | zero =>
        have hc2 : c = 2 := by (clear hlt hN hxx hvl hit hlli hit0 hD hs3 hitl hC ho1 hin ho2 hge6 hgd hys8; omega)
        subst hc2
        refine wpAny_pyNext_range_end hA (F8.at 0 rfl) (by decide) ?_
        intro h9 E9
        have F9 := F8.dropX (fun vs q t z e => by cases z; cases e) E9
        refine ⟨n, Nat.lt_succ_self _, ?_⟩
        rw [hJ]
        exact ⟨i + 1, h9, tk8, gn8, mm8, o2, ys8, n8, TL8, rfl, F9, ho2, by (clear hlt hN hxx hvl hit hlli hit0 hD hs3 hitl hC ho1 ho2 hge6 hgd hys8 hac; omega), by rw [Nat.mul_add]; exact hTL8, hge8, hB8⟩
      | succ a =>
        refine wpAny_pyNext_range_item (F8.at 0 rfl) (by (clear hlt hN hxx hvl hit hlli hit0 hD hs3 hitl hC ho1 hin ho2 hge6 hgd hys8; omega)) ?_
        intro h9 e9 S9
        have F9 := F8.updS 0 rfl (fun vs q t z e => by cases z; cases e) S9 e9
        refine wpAny_assign_Name ?_
        refine rStS F9 (fun h10 S10 F10 => ?_) rfl hkind (hx1 C)
        refine turn C _ _ i c h10 _ _ _ gn8 tA _ hilt (by (clear hlt hN hxx hvl hit hlli hit0 hD hs3 hitl hC ho1 hin ho2 hge6 hgd hys8; omega)) hB8 F10 (kd F10.kp) (by rw [if_neg hxx, hgd]; exact hmx) (if_pos rfl) _ fun t o h11 tk11 gn11 k11 K11 ht eo hco hdo hB11 => ?_
        have F11 := F10.callA k11 K11 ht eo
        refine rAppendS F11 3 rfl hys8 fun h12 S12 F12 => ?_
        refine ⟨a, Nat.lt_succ_self _, ?_⟩
        rw [hJ2]
        refine ⟨c + 1, h12, _, gn11, _, rgO ((c : Int) + 1) ((2 : Int) - (c : Int) - 1), ys8 ++ [.ref t], n8 + 1, TL8 ++ [(t, o)], rfl, F12.perm (nw' := (it2, rgO ((c : Int) + 1) ((2 : Int) - (c : Int) - 1)) :: (it, o2) :: (D, LO (ys8 ++ [.ref t]) (n8 + 1)) :: (TL8 ++ [(t, o)])) ?_, ?_, by (clear hlt hN hxx hvl hit hlli hit0 hD hs3 hitl hC ho1 hin ho2 hge6 hgd hys8 ht; omega), hTL8.snoc hco hdo, ?_, ?_, hB11⟩
        · exact List.perm_append_singleton (t, o) ((it2, rgO ((c : Int) + 1) ((2 : Int) - (c : Int) - 1)) :: (it, o2) :: (D, LO (ys8 ++ [.ref t]) (n8 + 1)) :: TL8)
        · show rgO ((c : Int) + 1) ((2 : Int) - (c : Int) - 1) = _
          rw [show (c : Int) + 1 = ((c + 1 : Nat) : Int) from by (clear hlt hN hxx hvl hit hlli hit0 hD hs3 hitl hC ho1 hin ho2 hge6 hgd hys8 hac ht; omega), show (2 : Int) - (c : Int) - 1 = (2 : Int) - ((c + 1 : Nat) : Int) from by (clear hlt hN hxx hvl hit hlli hit0 hD hs3 hitl hC ho1 hin ho2 hge6 hgd hys8 hac ht; omega)]
        · intro p hp'
          rcases List.mem_append.mp hp' with q | q
          · exact hge8 p q
          · cases List.mem_singleton.mp q
            have := F10.kp.sz
            exact Nat.le_trans (by (clear hlt hN hxx hvl hit hlli hit0 hitl ho1 hin ho2 hge6 hgd hys8 hac ht; omega)) ht
        · show (if x = x1 then _ else mm8 x) = _
          rw [if_neg hxx]
          exact hmx
    exact start_in loop (wpAny_pyIter_rangeiter e7 loop)
end
end Mine
end

namespace Mine
section
variable {w : World} {A : Around} {E : Value → Shared → Prop} {Q : Value → Shared → Prop} {t u : Tok} {hp h' : Heap} {gn : Array GenState} {dr : Drawn} {tk : Nat} {os : OsState} {pos : Pos} {k : Nat} {env : Env}
theorem rGe {a b : Int} (h : Q (.bool (decide (b ≤ a))) ⟨hp, gn, dr, tk, os⟩) : wpAny (model PP w) A (compareOp .GtE (.int a t) (.int b u)) Q E ⟨hp, gn, dr, tk, os⟩ := by
  first | exact ge_int h | exact ge_int (by simpa [GE.ge] using h)
end
def plq (k q : Nat) : Nat → Int
  | 0 => -1
  | j + 1 => ((k + j * q : Nat) : Int)
def stq (k q : Nat) : Nat → Int
  | 0 => (k : Int) + 1
  | _ => q
theorem plq_step (k q j : Nat) : plq k q j + stq k q j = ((k + j * q : Nat) : Int) := by
  match j with
  | 0 => show (-1 : Int) + ((k : Int) + 1) = _; simp; omega
  | j + 1 =>
    show ((k + j * q : Nat) : Int) + (q : Int) = _
    have : (j + 1) * q = j * q + q := by rw [Nat.add_mul, Nat.one_mul]
    omega
theorem exP {i j c : Nat} (h : i + j = 200) (h1 : j ≤ c + 1) (h2 : c ≤ 100) : ∃ i', i = i' + 1 := ⟨i - 1, by omega⟩
theorem it200 {i j : Nat} (h : i + 1 + j = 200) : 200 - 1 - i = j := by omega
theorem jump4 {k a r : Nat} : k + a + 1 + r = (k + (1 + r)) + a := by omega
theorem jump5 {k r q : Nat} (hr : 1 + r < q) (hc : ¬ k + (1 + r) < q) (hk : k < q) : k + (1 + r) - q < q ∧ k + (1 + r) - q ≠ k := by omega
theorem STt_jump {q k : Nat} (hk : k < q) (l : List Nat) (j : Nat) : STt q k l (k + (j + 1) * q) = STt q k l (k + j * q + 1) := by
  have hq1 : 1 ≤ q := Nat.lt_of_le_of_lt (Nat.zero_le k) hk
  have e : k + (j + 1) * q = k + j * q + q := by rw [Nat.add_mul, Nat.one_mul, Nat.add_assoc]
  rw [e]
  refine STt_skip (Nat.add_le_add_left hq1 _) fun i h1 h2 => ?_
  obtain ⟨r, rfl⟩ := Nat.exists_eq_add_of_le h1
  have hr : 1 + r < q := Nat.lt_of_add_lt_add_left (by rw [← Nat.add_assoc]; exact h2)
  rw [jump4, Nat.add_mul_mod_self_right]
  by_cases hc : k + (1 + r) < q
  · rw [Nat.mod_eq_of_lt hc]
    exact Nat.ne_of_gt (Nat.lt_add_of_pos_right (Nat.lt_of_lt_of_le Nat.one_pos (Nat.le_add_right 1 r)))
  · obtain ⟨g1, g2⟩ := jump5 hr hc hk
    rw [Nat.mod_eq_sub_mod (Nat.le_of_not_lt hc), Nat.mod_eq_of_lt g1]
    exact g2
theorem STt_first {q k : Nat} (hk : k < q) (l : List Nat) : STt q k l k = 0 := by
  have := STt_skip (q := q) (k := k) (l := l) (Nat.zero_le k) fun i _ h2 => by rw [Nat.mod_eq_of_lt (by omega)]; (clear hk; omega)
  rw [this]
  rfl
theorem c_sum {w : World} {mg mb : Str → Option Value} {g0 : Heap} (G : Gd w mg mb g0) {A : Around} {R : Result → Shared → Prop} {hp : Heap} {gn : Array GenState} {dr : Drawn} {tk0 : Nat} {os : OsState} (k0 : OK g0 hp) {k q : Nat} {t1 t2 : Tok} {l : Addr} {vs : List Value} {cs : List Nat}
  (rm : Rm A 10) (hl : hp.IsList l vs.toArray) (hlt : l ∉ tabs) (hi : IntsAre vs (cs.map fun (x : Nat) => (x : Int))) (hlen : cs.length ≤ 100) (hq : 0 < q) (hkq : k < q) (hq9 : q ≤ 9) (hall : AllB gn)
 (h : ∀ t h' gn' tks, OK g0 h' → Kp [] hp h' → AllB gn' → R (.ok (.ret (.int (ST q k 0 cs) t))) ⟨h', gn', dr, tks, os⟩) :
  codeAny (model PP w) A (.call (.ref aLS) ⟨[.ref l, .int k t1, .int q t2], []⟩) R ⟨hp, gn, dr, tk0, os⟩ := by
  refine ent (T := []) (n := 9) (binds := [("found", .ref l), ("first", .int k t1), ("step", .int q t2)]) G k0 rm (k0.at0 G rfl) rfl (k0.code G rfl) rfl rfl rfl rfl rfl rfl rfl ?_
  intro h1 tk1 F rm1 kk
  repeat (first | (first | ((with_reducible show wpAny _ _ (execs (Stmt.Assign [Expr.Name _ _] _ _ :: _) _) _ _ _); refine rAs ?_) | with_reducible refine rRet ?_ | with_reducible refine rIf ?_ | with_reducible refine wpAny_BinOp ?_ | with_reducible refine rI ?_ | with_reducible refine rS ?_ | ((with_reducible show wpAny _ _ (eval (Expr.Name _ _) _) _ _ _); refine nL (by assumption) rfl ?_) | ((with_reducible show wpAny _ _ (storeName _ _ _) _ _ _); refine rSt (by assumption) ?_; intro _ _) | ((with_reducible show wpAny _ _ (isTrue (Expr.Compare _ [_] [_] _) _ _) _ _ _); refine wpAny_isTrue_Compare1 ?_) | with_reducible refine wpAny_truthy_bool ?_ | with_reducible refine rEq ?_ | ((with_reducible show wpAny _ _ (eval (Expr.Call _ _ [] _) _) _ _ _); refine Call_ ?_) | ((with_reducible show wpAny _ _ (spliced (backTo _ (starEach (_ :: _) _))) _ _ _); refine spliced_more ?_) | ((with_reducible show wpAny _ _ (spliced (backTo _ (starEach [] _))) _ _ _); refine spliced_none ?_) | with_reducible refine wpAny_IfExp ?_) | (dsimp only; first | ((with_reducible show wpAny _ _ (execs (Stmt.Assign [Expr.Name _ _] _ _ :: _) _) _ _ _); refine rAs ?_) | with_reducible refine rRet ?_ | with_reducible refine rIf ?_ | with_reducible refine wpAny_BinOp ?_ | with_reducible refine rI ?_ | with_reducible refine rS ?_ | ((with_reducible show wpAny _ _ (eval (Expr.Name _ _) _) _ _ _); refine nL (by assumption) rfl ?_) | ((with_reducible show wpAny _ _ (storeName _ _ _) _ _ _); refine rSt (by assumption) ?_; intro _ _) | ((with_reducible show wpAny _ _ (isTrue (Expr.Compare _ [_] [_] _) _ _) _ _ _); refine wpAny_isTrue_Compare1 ?_) | with_reducible refine wpAny_truthy_bool ?_ | with_reducible refine rEq ?_ | ((with_reducible show wpAny _ _ (eval (Expr.Call _ _ [] _) _) _ _ _); refine Call_ ?_) | ((with_reducible show wpAny _ _ (spliced (backTo _ (starEach (_ :: _) _))) _ _ _); refine spliced_more ?_) | ((with_reducible show wpAny _ _ (spliced (backTo _ (starEach [] _))) _ _ _); refine spliced_none ?_) | with_reducible refine wpAny_IfExp ?_))
  rename_i h2 F2
  refine wpAny_UnaryOp ?_
  refine rI ?_
  refine rNeg ?_
  refine rStS F2 ?_
  intro h3 S3 F3
  refine rForL ?_
  refine Call_ ?_
  refine nG G F3 rfl ?_
  refine rCW (F3.ok.at0 G rfl) rfl ?_
  refine spliced_more ?_
  refine rList ?_
  repeat (first | (first | ((with_reducible show wpAny _ _ (execs (Stmt.Assign [Expr.Name _ _] _ _ :: _) _) _ _ _); refine rAs ?_) | with_reducible refine rRet ?_ | with_reducible refine rIf ?_ | with_reducible refine wpAny_BinOp ?_ | with_reducible refine rI ?_ | with_reducible refine rS ?_ | ((with_reducible show wpAny _ _ (eval (Expr.Name _ _) _) _ _ _); refine nL (by assumption) rfl ?_) | ((with_reducible show wpAny _ _ (storeName _ _ _) _ _ _); refine rSt (by assumption) ?_; intro _ _) | ((with_reducible show wpAny _ _ (isTrue (Expr.Compare _ [_] [_] _) _ _) _ _ _); refine wpAny_isTrue_Compare1 ?_) | with_reducible refine wpAny_truthy_bool ?_ | with_reducible refine rEq ?_ | ((with_reducible show wpAny _ _ (eval (Expr.Call _ _ [] _) _) _ _ _); refine Call_ ?_) | ((with_reducible show wpAny _ _ (spliced (backTo _ (starEach (_ :: _) _))) _ _ _); refine spliced_more ?_) | ((with_reducible show wpAny _ _ (spliced (backTo _ (starEach [] _))) _ _ _); refine spliced_none ?_) | with_reducible refine wpAny_IfExp ?_) | (dsimp only; first | ((with_reducible show wpAny _ _ (execs (Stmt.Assign [Expr.Name _ _] _ _ :: _) _) _ _ _); refine rAs ?_) | with_reducible refine rRet ?_ | with_reducible refine rIf ?_ | with_reducible refine wpAny_BinOp ?_ | with_reducible refine rI ?_ | with_reducible refine rS ?_ | ((with_reducible show wpAny _ _ (eval (Expr.Name _ _) _) _ _ _); refine nL (by assumption) rfl ?_) | ((with_reducible show wpAny _ _ (storeName _ _ _) _ _ _); refine rSt (by assumption) ?_; intro _ _) | ((with_reducible show wpAny _ _ (isTrue (Expr.Compare _ [_] [_] _) _ _) _ _ _); refine wpAny_isTrue_Compare1 ?_) | with_reducible refine wpAny_truthy_bool ?_ | with_reducible refine rEq ?_ | ((with_reducible show wpAny _ _ (eval (Expr.Call _ _ [] _) _) _ _ _); refine Call_ ?_) | ((with_reducible show wpAny _ _ (spliced (backTo _ (starEach (_ :: _) _))) _ _ _); refine spliced_more ?_) | ((with_reducible show wpAny _ _ (spliced (backTo _ (starEach [] _))) _ _ _); refine spliced_none ?_) | with_reducible refine wpAny_IfExp ?_))
  refine rAdd ((k : Int) + 1) rfl ?_
  repeat (first | (first | ((with_reducible show wpAny _ _ (execs (Stmt.Assign [Expr.Name _ _] _ _ :: _) _) _ _ _); refine rAs ?_) | with_reducible refine rRet ?_ | with_reducible refine rIf ?_ | with_reducible refine wpAny_BinOp ?_ | with_reducible refine rI ?_ | with_reducible refine rS ?_ | ((with_reducible show wpAny _ _ (eval (Expr.Name _ _) _) _ _ _); refine nL (by assumption) rfl ?_) | ((with_reducible show wpAny _ _ (storeName _ _ _) _ _ _); refine rSt (by assumption) ?_; intro _ _) | ((with_reducible show wpAny _ _ (isTrue (Expr.Compare _ [_] [_] _) _ _) _ _ _); refine wpAny_isTrue_Compare1 ?_) | with_reducible refine wpAny_truthy_bool ?_ | with_reducible refine rEq ?_ | ((with_reducible show wpAny _ _ (eval (Expr.Call _ _ [] _) _) _ _ _); refine Call_ ?_) | ((with_reducible show wpAny _ _ (spliced (backTo _ (starEach (_ :: _) _))) _ _ _); refine spliced_more ?_) | ((with_reducible show wpAny _ _ (spliced (backTo _ (starEach [] _))) _ _ _); refine spliced_none ?_) | with_reducible refine wpAny_IfExp ?_) | (dsimp only; first | ((with_reducible show wpAny _ _ (execs (Stmt.Assign [Expr.Name _ _] _ _ :: _) _) _ _ _); refine rAs ?_) | with_reducible refine rRet ?_ | with_reducible refine rIf ?_ | with_reducible refine wpAny_BinOp ?_ | with_reducible refine rI ?_ | with_reducible refine rS ?_ | ((with_reducible show wpAny _ _ (eval (Expr.Name _ _) _) _ _ _); refine nL (by assumption) rfl ?_) | ((with_reducible show wpAny _ _ (storeName _ _ _) _ _ _); refine rSt (by assumption) ?_; intro _ _) | ((with_reducible show wpAny _ _ (isTrue (Expr.Compare _ [_] [_] _) _ _) _ _ _); refine wpAny_isTrue_Compare1 ?_) | with_reducible refine wpAny_truthy_bool ?_ | with_reducible refine rEq ?_ | ((with_reducible show wpAny _ _ (eval (Expr.Call _ _ [] _) _) _ _ _); refine Call_ ?_) | ((with_reducible show wpAny _ _ (spliced (backTo _ (starEach (_ :: _) _))) _ _ _); refine spliced_more ?_) | ((with_reducible show wpAny _ _ (spliced (backTo _ (starEach [] _))) _ _ _); refine spliced_none ?_) | with_reducible refine wpAny_IfExp ?_))
  refine rNewLg (fun vs => IntsAre vs [(k : Int) + 1, q, 0]) (.cons _ _ (.cons _ _ (.cons _ _ .nil))) (by simp) ?_
  intro vs4 hvs4
  have F4 := F3.psh (LO vs4 0)
  have hl0 : g0.objs.size ≤ h3.objs.size := F3.ok.sz
  have hlt3 : hp.objs.size < h3.objs.size := ns_lt F3.ns
  generalize hl4 : h3.objs.size = l4 at *
  generalize hh4 : h3.push (LO vs4 0) = h4 at *
  have hs4 : h4.objs.size = l4 + 1 := by rw [← hh4, Heap.size_push, hl4]
  refine spliced_none ?_
  refine ⟨F4.ok.at0 G rfl, ?_⟩
  refine c_gi1 G F4.ok (l := l4) (lo := l4) (N := 200) (item := stq k q) (last := q) (xs := [(k : Int) + 1, q]) (rm1.le (by decide)) (LO.is (F4.at 0 rfl)) (Nat.le_refl _) hl0 (by decide) hvs4 ?_ (by simp) ?_ ?_ ⟨1, rfl, rfl⟩ ?_
  · intro x hx
    simp at hx
    rcases hx with rfl | rfl <;> (clear hlt hlen hl4 hl0 hlt3 hs4; omega)
  · intro i hi
    match i with
    | 0 => rfl
    | 1 => rfl
    | i + 2 => simp at hi; (clear hlt hlen hq hkq hq9 hl4 hl0 hlt3 hs4; omega)
  · intro i hi
    match i with
    | 0 => simp at hi
    | i + 1 => rfl
  intro a h5 tk5 gs k5 K5 ha hgen hbare gw
  obtain ⟨og, nm, qn, eg, cg, dg, sg'⟩ := hgen
  have F5 := (F4.call k5 K5).add eg (Nat.le_trans F4.gsz (Nat.le_of_lt ha)) (F4.fresh (Nat.le_of_lt ha)).1 (F4.fresh (Nat.le_of_lt ha)).2
  refine wpAny_pyIter_gen ⟨og, nm, qn, F5.at 0 rfl, cg, dg, sg'⟩ ?_
  obtain ⟨A1, hA1, gw⟩ : ∃ A1, A1 = _ ∧ GW w g0 A1 200 l4 h4.objs.size (a + 1) (stq k q) 200 h5 gs := ⟨_, rfl, gw⟩
  refine rLoop (fun i s => ∃ j h' gn' tk' mm gs tp tt, s = ⟨h', gn', dr, tk', os⟩ ∧ FS g0 hp [] hp.objs.size h' mm [(a, og), (l4, LO vs4 0)] ∧ i + j = 200 ∧ mm "place" = some (.int (plq k q j) tp) ∧ mm "total" = some (.int (STt q k cs (k + j * q)) tt) ∧ mm "found" = some (.ref l) ∧
    j ≤ cs.length + 1 ∧ AllB gn' ∧ gn'[gn.size]? = some gs ∧ (0 < i → GW w g0 A1 200 l4 h4.objs.size (a + 1) (stq k q) i h' gs)) ?_ 200 ?_
  · rintro J hJ i s ⟨j, h', gn', tk', mm, gs', tp, tt, rfl, F', hij, mp, mt, mf, hj, hB, hgs, hgw⟩
    obtain ⟨i', rfl⟩ : ∃ i', i = i' + 1 := exP hij hj hlen
    refine rNextG G F'.ok (n := i') (rm1.le (by decide)) ⟨og, nm, qn, F'.at 0 rfl, cg, dg, sg'⟩ hgs (hA1 ▸ hgw (Nat.succ_pos _)) hB ?_
    intro t6 h6 tk6 gs6 gn6 hgs6 hB6 k6 sz6 K6 gw6
    have hia : a + 1 > h4.objs.size + 1 := Nat.succ_lt_succ ha
    have F6 := F'.callG k6 sz6 K6 (hgC := by have := hlt3; (clear hlt hlen hq hkq hq9 hl4 hl0 ha hj hij sz6 hia this; omega)) (hghi := by (clear hlt hlen hq hkq hq9 hl4 hl0 hj hij sz6 hia; omega)) ⟨by show @Ne Nat _ _; (clear hlt hlen hq hkq hq9 hl4 hl0 ha hj hij sz6 hia; omega), by (clear hlt hlen hq hkq hq9 hl4 hl0 hj hij sz6 hia; omega)⟩ (fun p hp' => by
      simp only [List.mem_cons, List.not_mem_nil, or_false] at hp'
      rcases hp' with rfl | rfl
      · exact ⟨Nat.ne_of_gt ha, Nat.lt_succ_self _⟩
      · exact ⟨by show @Ne Nat l4 _; (clear hlt hlen hq hkq hq9 hl4 hl0 hlt3 ha hj hij sz6 hia; omega), by show l4 < _; (clear hlt hlen hq hkq hq9 hl4 hl0 hlt3 hj hij sz6 hia; omega)⟩)
    have hit : stq k q (200 - 1 - i') = stq k q j := by
      have : 200 - 1 - i' = j := it200 hij
      rw [this]
    rw [hit]
    have kb3 : ∀ {x y : Heap} {z : Addr}, z < l4 → Heap.SameBut z x y → ∀ b o, l4 ≤ b → x.get? b = some o → y.get? b = some o := fun hz S b o hb e => (S.2 b (Nat.ne_of_gt (Nat.lt_of_lt_of_le hz hb))).trans e
    refine rStS F6 ?_
    intro h7 S7 F7
    refine rAuN ?_
    refine nl F7 mp ?_
    refine nL F7 rfl ?_
    refine rIAdd ?_
    rw [plq_step k q j]
    refine rStS F7 ?_
    intro h8 S8 F8
    have hl8 : h8.IsList l vs.toArray := F8.kp.list hl hlt List.not_mem_nil
    have hvl : vs.length = cs.length := by rw [hi.length, List.length_map]
    refine rIf ?_
    refine wpAny_isTrue_Compare1 ?_
    refine nL F8 rfl ?_
    refine Call_ ?_
    refine nB G F8 rfl rfl ?_
    refine rCB ?_
    refine spliced_more ?_
    refine nL F8 mf ?_
    refine spliced_none ?_
    refine rLen hl8 (n := cs.length) (by simp [hvl]) (Nat.lt_of_le_of_lt hlen (by decide)) ?_
    intro tk9 tk9'
    refine rGe ?_
    refine wpAny_truthy_bool ?_
    by_cases hgt : cs.length ≤ k + j * q
    · refine iteT (by simp only [decide_eq_true_eq]; exact Int.ofNat_le.mpr hgt) ?_
      refine wpAny_execs_cons (wpAny_Break ?_)
      show wpAny (model PP w) _ (execs _ _) _ _ ⟨h8, gn6, dr, _, os⟩
      refine rRet ?_
      refine nL F8 mt ?_
      rw [STt_all hgt]
      have q := fun t tks => h t h8 gn6 tks F8.ok F8.kp hB6
      exact q _ _
    · refine iteF (by simp only [decide_eq_true_eq]; exact fun z => hgt (Int.ofNat_le.mp z)) ?_
      refine rNil ?_
      have hlt8 : k + j * q < cs.length := Nat.lt_of_not_le hgt
      have hjl : j ≤ cs.length := by
        have : j * 1 ≤ j * q := Nat.mul_le_mul_left _ hq
        exact Nat.le_of_lt (Nat.lt_of_le_of_lt (Nat.le_trans (by rw [Nat.mul_one] at this; exact this) (Nat.le_add_left _ k)) hlt8)
      obtain ⟨x, hx⟩ : ∃ x, cs[k + j * q]? = some x := ⟨_, List.getElem?_eq_getElem hlt8⟩
      have hxi : (cs.map fun (x : Nat) => (x : Int))[k + j * q]? = some (x : Int) := by rw [List.getElem?_map, hx]; rfl
      have hmod : (k + j * q) % q = k := by rw [Nat.add_mul_mod_self_right, Nat.mod_eq_of_lt hkq]
      have hone := STt_one (l := cs) hx hmod
      rw [← STt_jump hkq] at hone
      have fin : ∀ h9 m9, FS g0 hp [] hp.objs.size h9 m9 [(a, og), (l4, LO vs4 0)] → ∀ t9 tk9, (m9 "total" = some (.int (STt q k cs (k + (j + 1) * q)) t9)) → m9 "place" = some (.int (plq k q (j + 1)) (tk6 + 1)) → m9 "found" = some (.ref l) → (∀ b o, l4 ≤ b → h8.get? b = some o → h9.get? b = some o) →
          ∃ m, m < i' + 1 ∧ J m ⟨h9, gn6, dr, tk9, os⟩ := fun h9 m9 F9 t9 tk9 e1 e2 e3 kb9 =>
        ⟨i', Nat.lt_succ_self _, hJ _ _ ⟨j + 1, h9, gn6, tk9, m9, gs6, _, t9, rfl, F9, (Nat.add_right_comm i' 1 j).symm.trans hij, e2, e1, e3, Nat.succ_le_succ hjl, hB6, hgs6, fun hi0 => by
          rw [hA1]
          exact (gw6 hi0).mono fun b o hb e => kb9 b o hb (kb3 hlt3 S8 b o hb (kb3 hlt3 S7 b o hb e))⟩⟩
      refine rAuN ?_
      refine nl F8 mt ?_
      refine wpAny_IfExp ?_
      refine isTrue_plain ?_
      refine wpAny_BinOp ?_
      refine nL F8 rfl ?_
      refine rI ?_
      refine rMod (((k + j * q) % 2 : Nat) : Int) (by decide) (fmod_nat _ 2) ?_
      refine rTru ?_
      by_cases hod : (k + j * q) % 2 = 1
      · have hsg : sg (k + j * q) x = -(x : Int) := by unfold sg; rw [if_pos hod]
        rw [hsg] at hone
        refine iteT (by rw [hod]; rfl) ?_
        refine wpAny_UnaryOp ?_
        refine rSub1 ?_
        refine nL F8 mf ?_
        refine nL F8 rfl ?_
        refine rIxI hl8 hi (k + j * q) (x : Int) rfl hxi (Nat.lt_trans hlt8 (Nat.lt_of_le_of_lt hlen (by decide))) ?_
        intro t10
        refine rNeg ?_
        refine rIAdd ?_
        rw [← hone]
        refine rStS F8 ?_
        intro h9 S9 F9
        refine rNil ?_
        exact fin h9 _ F9 _ _ rfl rfl mf (kb3 hlt3 S9)
      · have hsg : sg (k + j * q) x = (x : Int) := by unfold sg; rw [if_neg hod]
        rw [hsg] at hone
        have hev : (k + j * q) % 2 = 0 := (Nat.mod_two_eq_zero_or_one _).resolve_right hod
        refine iteF (by rw [hev]; decide) ?_
        refine rSub1 ?_
        refine nL F8 mf ?_
        refine nL F8 rfl ?_
        refine rIxI hl8 hi (k + j * q) (x : Int) rfl hxi (Nat.lt_trans hlt8 (Nat.lt_of_le_of_lt hlen (by decide))) ?_
        intro t10
        refine rIAdd ?_
        rw [← hone]
        refine rStS F8 ?_
        intro h9 S9 F9
        refine rNil ?_
        exact fin h9 _ F9 _ _ rfl rfl mf (kb3 hlt3 S9)
  · refine ⟨0, h5, _, _, _, gs, _, tk1, rfl, F5, rfl, rfl, ?_, rfl, Nat.zero_le _, AllB.push hall hbare, by simp, fun _ => gw⟩
    have e0 : STt q k cs (k + 0 * q) = 0 := by rw [Nat.zero_mul, Nat.add_zero, STt_first hkq]
    rw [e0]
    rfl
end Mine

namespace Mine
abbrev dflt : List Int := [6, 13, 1, 4, 8, 2, 7, 5, 3, 6, 0]
theorem nums_len (ns : List Int) : (ns.take 11 ++ dflt.drop ns.length).length = 11 := by
  rw [List.length_append, List.length_take, List.length_drop]
  show min 11 ns.length + (11 - ns.length) = 11
  omega
def rowOf (nums : List Int) (q : Nat) : List Nat := ((nums.drop 2).take q).map fun v => (1 + v.fmod 8).toNat
theorem row_len {nums : List Int} {q : Nat} (h : nums.length = 11) (hq : q ≤ 9) : (rowOf nums q).length = q := by
  simp [rowOf, h]
  (clear h; omega)
theorem row_bd (nums : List Int) (q : Nat) : ∀ x ∈ rowOf nums q, 1 ≤ x ∧ x ≤ 8 := by
  intro x hx
  obtain ⟨v, _, rfl⟩ := List.mem_map.mp hx
  have h1 := Int.fmod_nonneg_of_pos v (by decide : (0 : Int) < 8)
  have h2 := Int.fmod_lt_of_pos v (by decide : (0 : Int) < 8)
  omega
theorem row_cast (nums : List Int) (q : Nat) : ((rowOf nums q).map fun (x : Nat) => (x : Int)) = ((nums.drop 2).take q).map fun v => 1 + v.fmod 8 := by
  unfold rowOf
  rw [List.map_map]
  refine List.map_congr_left fun v _ => ?_
  have h1 := Int.fmod_nonneg_of_pos v (by decide : (0 : Int) < 8)
  show (((1 + v.fmod 8).toNat : Nat) : Int) = _
  omega
theorem shp_bd {q p : Nat} (h : Shp q p) : 2 ≤ q ∧ q ≤ 9 ∧ 2 ≤ p ∧ p ≤ q := by
  unfold Shp at h
  simp only [List.mem_cons, Prod.mk.injEq, List.not_mem_nil, or_false] at h
  rcases h with ⟨rfl, rfl⟩ | ⟨rfl, rfl⟩ | ⟨rfl, rfl⟩ | ⟨rfl, rfl⟩ | ⟨rfl, rfl⟩ | ⟨rfl, rfl⟩
  all_goals decide
theorem pw_bd {q p n : Nat} (h : Shp q p) (h1 : 1 ≤ n) (h2 : n ≤ 10) : 1 ≤ pw q p n ∧ pw q p n < 2 ^ 10 ∧ q / p < q ∧ (n - q / p) / (q - q / p) ≤ 9 := by
  have use : ∀ n : Nat, 1 ≤ n → n ≤ 10 → ∀ {q p}, (∀ m : Fin 10, 1 ≤ pw q p (m.val + 1) ∧ pw q p (m.val + 1) < 2 ^ 10 ∧ q / p < q ∧ (m.val + 1 - q / p) / (q - q / p) ≤ 9) → 1 ≤ pw q p n ∧ pw q p n < 2 ^ 10 ∧ q / p < q ∧ (n - q / p) / (q - q / p) ≤ 9 := fun n h1 h2 {q p} f => by
    have := f ⟨n - 1, by omega⟩
    simp only [show n - 1 + 1 = n from by (clear this; omega)] at this
    exact this
  unfold Shp at h
  simp only [List.mem_cons, Prod.mk.injEq, List.not_mem_nil, or_false] at h
  rcases h with ⟨rfl, rfl⟩ | ⟨rfl, rfl⟩ | ⟨rfl, rfl⟩ | ⟨rfl, rfl⟩ | ⟨rfl, rfl⟩ | ⟨rfl, rfl⟩
  all_goals exact use n h1 h2 (by decide)
end Mine
namespace Mine
theorem bits16 : Builtin.Int.intBits 2 * 16 ≤ 2 ^ 20 := Nat.le_trans (Nat.mul_le_mul_right 16 (bits_nat (a := 2) (k := 2) (by decide))) (by decide)
end Mine
namespace Mine
theorem bB {B n : Nat} (hB : B = 65537) (hn : n ≤ 10) : Builtin.Int.intBits (B : Int) * n ≤ 2 ^ 20 := by
  have hb1 : Builtin.Int.intBits (B : Int) ≤ 17 := bits_nat (by rw [hB]; decide)
  exact Nat.le_trans (Nat.mul_le_mul hb1 hn) (by decide)
theorem bBn {B n : Nat} (hB : B = 65537) (hn : n ≤ 10) : Builtin.Int.intBits ((B ^ n : Nat) : Int) ≤ 2 ^ 20 := by
  have h2 : B ^ n ≤ B ^ 10 := Nat.pow_le_pow_right (by (clear hn; omega)) hn
  have h3 : B ^ 10 < 2 ^ 171 := by rw [hB]; decide
  exact Nat.le_trans (bits_nat (k := 171) (Nat.lt_of_le_of_lt h2 h3)) (by decide)
theorem bNs {row : List Nat} (hl : row.length ≤ 9) (hb : ∀ x ∈ row, 1 ≤ x ∧ x ≤ 8) : Builtin.Int.intBits ((nsum 16 row : Nat) : Int) ≤ 2 ^ 20 := by
  have h1 := nsum_lt 16 row fun d hd => Nat.lt_of_le_of_lt (hb d hd).2 (by decide)
  have h2 : 2 ^ (16 * row.length) ≤ 2 ^ 144 := Nat.pow_le_pow_right (by decide) (by (clear h1; omega))
  exact Nat.le_trans (bits_nat (k := 144) (Nat.lt_of_lt_of_le h1 h2)) (by decide)
theorem B_ge {B : Nat} (hB : B = 65537) : (2 : Int) ≤ (B : Int) := by rw [hB]; decide
theorem B_add {B : Nat} (hB : B = 65537) : (65536 : Int) + 1 = (B : Int) := by rw [hB]; decide
theorem p16 : (2 : Int) ^ 16 = 65536 := by decide
theorem d16 {x : Nat} (h : 1 ≤ x ∧ x ≤ 8) : 0 ≤ (x : Int) ∧ (x : Int) < 2 ^ 16 := by
  refine ⟨by omega, ?_⟩
  rw [p16]
  omega
theorem cof_facts {row : List Nat} {n B : Nat} (hB : B = 65537) (hn : n ≤ 10) (h0 : row ≠ []) (hb : ∀ x ∈ row, 1 ≤ x ∧ x ≤ 8) :
    (∀ x ∈ cof n row, x ≠ 0 ∧ x ≤ 8192) ∧ digs 16 (cnt 16 (nsum 16 (cof n row))) (nsum 16 (cof n row)) = (cof n row).map (fun (x : Nat) => (x : Int)) ∧ cnt 16 (nsum 16 (cof n row)) = row.length + n ∧ ((nsum 16 row : Nat) : Int) * ((B ^ n : Nat) : Int) = ((nsum 16 (cof n row) : Nat) : Int) := by
  have ccb := cof_bd n row h0 hb
  have cc1 : ∀ x ∈ cof n row, 1 ≤ x ∧ x ≤ 8192 := fun x hx => by
    have h1 := ccb x hx
    have h2 : 2 ^ n ≤ 2 ^ 10 := Nat.pow_le_pow_right (by decide) hn
    have h3 : 2 ^ n * 8 ≤ 2 ^ 10 * 8 := Nat.mul_le_mul_right _ h2
    exact ⟨h1.1, Nat.le_trans h1.2 h3⟩
  have cc2 : ∀ d ∈ cof n row, d < 2 ^ 16 := fun d hd => Nat.lt_of_le_of_lt (cc1 d hd).2 (by decide)
  have ccc : cnt 16 (nsum 16 (cof n row)) = (cof n row).length := nsum_cnt (by decide) (cof_ne h0) (fun d hd => (cc1 d hd).1) cc2
  refine ⟨fun x hx => ⟨Nat.ne_of_gt (cc1 x hx).1, (cc1 x hx).2⟩, by rw [ccc]; exact digs_nsum 16 _ cc2, by rw [ccc, cof_len], ?_⟩
  rw [nsum_cof, hB]
  rfl
end Mine
namespace Mine
theorem maxE {n u d : Nat} (hd : 0 < d) (t1 t2 : Tok) : (if ((n : Int) - (u : Int)).fdiv (d : Int) > 0 then Value.int (((n : Int) - (u : Int)).fdiv (d : Int)) t1 else Value.int 0 t2) = Value.int (((n - u) / d : Nat) : Int) (if ((n : Int) - (u : Int)).fdiv (d : Int) > 0 then t1 else t2) := by
  by_cases h : u ≤ n
  · have e : (n : Int) - (u : Int) = ((n - u : Nat) : Int) := by (clear hd; omega)
    rw [e, fdivN]
    generalize (n - u) / d = z
    by_cases h2 : (z : Int) > 0
    · rw [if_pos h2, if_pos h2]
    · rw [if_neg h2, if_neg h2]
      congr 1
      (clear hd h e; omega)
  · have e1 : ((n : Int) - (u : Int)).fdiv (d : Int) < 0 := by
      rw [Int.fdiv_eq_ediv_of_nonneg _ (by (clear h; omega))]
      exact Int.ediv_neg_of_neg_of_pos (by (clear hd; omega)) (by (clear h; omega))
    have e2 : n - u = 0 := by (clear hd e1; omega)
    rw [if_neg (by (clear hd h e2; omega)), if_neg (by (clear hd h e2; omega)), e2, Nat.zero_div]
    rfl
theorem stz_eq {l : List Int} {q : Nat} (h : l.length = q) : ((List.range q).map fun k => l.getD k 0 - l.getD ((k + q - 1) % q) 0) = stz l := by
  subst h
  rfl
theorem getD_some {l : List Int} {i : Nat} (h : i < l.length) : l[i]? = some (l.getD i 0) := by
  rw [List.getElem?_eq_getElem h]
  simp [List.getD, List.getElem?_eq_getElem h]
theorem prev_of {q i : Nat} (hi : i < q) (h0 : i ≠ 0) : (i + q - 1) % q = i - 1 := by
  rw [Nat.sub_add_comm (Nat.pos_of_ne_zero h0), Nat.add_mod_right, Nat.mod_eq_of_lt (Nat.lt_of_le_of_lt (Nat.sub_le i 1) hi)]
theorem prev_0 {q : Nat} (hq : 0 < q) : (0 + q - 1) % q = q - 1 := by
  rw [Nat.zero_add, Nat.mod_eq_of_lt (by omega)]
theorem bitsP9 {p e : Nat} (hp : p ≤ 9) (he : e ≤ 9) : Builtin.Int.intBits (p : Int) * e ≤ 2 ^ 20 := Nat.le_trans (Nat.mul_le_mul (bits_nat (a := p) (k := 4) (by (clear he; omega))) he) (by decide)
end Mine
namespace Mine
theorem ST_abs {q k M : Nat} : ∀ i l, (∀ x ∈ l, x ≤ M) → (ST q k i l).natAbs ≤ M * l.length
  | _, [], _ => by simp [ST]
  | i, x :: l, h => by
    have h1 := h x (.head _)
    have ih := ST_abs (q := q) (k := k) (i + 1) l fun y hy => h y (.tail _ hy)
    have h2 : (if i % q = k then sg i x else 0).natAbs ≤ M := by
      unfold sg
      split
      · split <;> (clear ih; omega)
      · simp
    rw [ST, List.length_cons, Nat.mul_add, Nat.mul_one, Nat.add_comm (M * l.length)]
    exact Nat.le_trans (Int.natAbs_add_le _ _) (Nat.add_le_add h2 ih)
theorem idm_ok {M : Nat} (h2 : M < 2 ^ 10) {a : Int} (ha : a.natAbs < 2 ^ 18) : ∃ nb, Builtin.Int.intBits (M : Int) = nb ∧ nb ≤ 10 ∧ cnt nb a.natAbs ≤ 40 ∧ cnt nb (a.natAbs - 1) ≤ cnt nb a.natAbs := by
  have b1 := bits_nat h2
  have b2 := bits_nat ha
  have b3 : Builtin.Int.intBits ((a.natAbs - 1 : Nat) : Int) ≤ Builtin.Int.intBits ((a.natAbs : Nat) : Int) := by
    refine intBits_le_iff.mpr ?_
    have := intBits_le_iff.mp (Nat.le_refl (Builtin.Int.intBits ((a.natAbs : Nat) : Int)))
    rw [Int.natAbs_natCast] at this ⊢
    (clear h2 ha b1 b2; omega)
  refine ⟨_, rfl, b1, ?_, ?_⟩
  · refine Nat.le_trans (Nat.div_le_self _ _) ?_
    (clear h2 ha b3; omega)
  · exact Nat.div_le_div_right (by (clear h2 ha b1 b2; omega))
def dX (zs : List Int) (M : Nat) (j : Nat) : Int := (zs.getD (j / 2) 0 - ((j % 2 : Nat) : Int)) / (M : Int)
def dY (zs : List Int) (M : Nat) (j : Nat) : Int := (zs.getD (j / 2) 0 - ((j % 2 : Nat) : Int)) % (M : Int)
theorem dX_eq {zs : List Int} {M i kk : Nat} (h : kk < 2) : dX zs M (2 * i + kk) = (zs.getD i 0 - (kk : Int)) / (M : Int) := by
  unfold dX
  rw [show (2 * i + kk) / 2 = i from by omega, show (2 * i + kk) % 2 = kk from by omega]
theorem dY_eq {zs : List Int} {M i kk : Nat} (h : kk < 2) : dY zs M (2 * i + kk) = (zs.getD i 0 - (kk : Int)) % (M : Int) := by
  unfold dY
  rw [show (2 * i + kk) / 2 = i from by omega, show (2 * i + kk) % 2 = kk from by omega]
theorem neg_mod {z : Int} {M kk : Nat} (h : z % (M : Int) = 0) : (-(kk : Int)).fmod (M : Int) = (z - (kk : Int)) % (M : Int) := by
  rw [Int.fmod_eq_emod_of_nonneg _ (Int.natCast_nonneg _), Int.sub_eq_add_neg, Int.add_emod, h, Int.zero_add, Int.emod_emod]
end Mine
namespace Mine
theorem lem65 {x s : Nat} (h : x ≤ 19) (hs : s ≤ 64 * x) : s + x ≤ 1048576 := by omega
theorem lem65b {x : Nat} (h : x ≤ 19) : 65 * x ≤ 2 ^ 20 := by omega
theorem small_n {n : Nat} (h : n ≤ 10) : Builtin.Range.small 0 (n : Int) 1 = true := small_one (by decide) (by decide) (by omega) (by omega)
theorem rs_n (n : Nat) : (if (0 : Int) < (n : Int) then (n : Int) - 0 else 0) = n := by split <;> omega
theorem le0 {n j : Nat} (h : 0 + j = n) : (n : Int) - (j : Int) ≤ 0 := by omega
theorem pos1 {n i j : Nat} (h : i + 1 + j = n) : 0 < (n : Int) - (j : Int) := by omega
theorem ne0 {p : Nat} (h : 0 < p) : (p : Int) ≠ 0 := by omega
theorem subc {q u : Nat} (h : u < q) : (q : Int) - (u : Int) = ((q - u : Nat) : Int) := by omega
theorem nabs {z : Int} {kk : Nat} (h : z.natAbs < 2 ^ 18 - 1) (hk : kk < 2) : (z - (kk : Int)).natAbs < 2 ^ 18 := by omega
theorem subone {i : Nat} (h : i ≠ 0) : (i : Int) - 1 = ((i - 1 : Nat) : Int) := by omega
end Mine

namespace Mine
theorem c_law {w : World} {mg mb : Str → Option Value} {g0 : Heap} (G : Gd w mg mb g0) {A : Around} {R : Result → Shared → Prop} {dr : Drawn} {tk0 : Nat} {os : OsState} {l : Addr} {vs : List Value} {ns : List Int} {fa : Addr}
  (hfa : mg "law" = some (.ref fa)) (rm : Rm A 200) (hl : g0.IsList l vs.toArray) (hi : IntsAre vs ns) (hlen : ns.length ≤ 63) (hlt : l ∉ tabs)
 (h : ∀ h' gn' tks, OK g0 h' → AllB gn' → R (.ok (.ret (.bool true))) ⟨h', gn', dr, tks, os⟩) : codeAny (model PP w) A (.call (.ref fa) ⟨[.ref l], []⟩) R ⟨g0, #[], dr, tk0, os⟩ := by
  have e := mg_of (n := "law") G.X G.g (v := .ref 143) (by rfl)
  rw [hfa] at e
  cases e
  have k : OK g0 g0 := ⟨Nat.le_refl _, fun _ _ e _ => e, G.lt, ⟨#[], G.tb _ (by simp [tabs]), .inl rfl⟩, ⟨#[], G.tb _ (by simp [tabs]), .inl rfl⟩, ⟨#[], G.tb _ (by simp [tabs]), .inl rfl⟩⟩
  refine entC (T := []) (n := 199) (binds := [("script", .ref l)]) G k rm (k.at0 G rfl) rfl (k.code G rfl) rfl rfl rfl rfl rfl rfl rfl ?_
  intro h₁ tk₁ F hc rm₁ kk
  generalize hLL : g0.objs.size = L at *
  have hLg : ∀ j, g0.objs.size ≤ L + j := fun j => by (clear hlen hlt; omega)
  obtain ⟨o1, e1, d1⟩ := hc "length" (L + 1) rfl
  obtain ⟨o2, e2, d2⟩ := hc "row" (L + 2) rfl
  obtain ⟨o3, e3, d3⟩ := hc "found" (L + 3) rfl
  obtain ⟨o4, e4, d4⟩ := hc "ring" (L + 4) rfl
  obtain ⟨o5, e5, d5⟩ := hc "power" (L + 5) rfl
  change o1.data = .cell none at d1
  change o2.data = .cell none at d2
  change o3.data = .cell none at d3
  change o4.data = .cell none at d4
  change o5.data = .cell none at d5
  have ne : ∀ i j : Nat, i ≠ j → @Ne Nat (L + i) (L + j) := fun i j hij => by (clear hlen hlt hLL; omega)
  have neL : ∀ i : Nat, 0 < i → @Ne Nat (L + i) L := fun i hi => by (clear hlen hlt hLL; omega)
  replace F := F.add e5 (hLg 5) (fun _ q => nomatch q) (neL 5 (by decide))
  replace F := F.add e4 (hLg 4) (fun q hq => by simp only [List.mem_cons, List.not_mem_nil, or_false] at hq; subst hq; exact ne 5 4 (by decide)) (neL 4 (by decide))
  replace F := F.add e3 (hLg 3) (fun q hq => by simp only [List.mem_cons, List.not_mem_nil, or_false] at hq; rcases hq with rfl | rfl <;> exact ne _ 3 (by decide)) (neL 3 (by decide))
  replace F := F.add e2 (hLg 2) (fun q hq => by simp only [List.mem_cons, List.not_mem_nil, or_false] at hq; rcases hq with rfl | rfl | rfl <;> exact ne _ 2 (by decide)) (neL 2 (by decide))
  replace F := F.add e1 (hLg 1) (fun q hq => by simp only [List.mem_cons, List.not_mem_nil, or_false] at hq; rcases hq with rfl | rfl | rfl | rfl <;> exact ne _ 1 (by decide)) (neL 1 (by decide))
  clear e1 e2 e3 e4 e5 hc
  repeat (first | (first | ((with_reducible show wpAny _ _ (execs (Stmt.Assign [Expr.Name _ _] _ _ :: _) _) _ _ _); refine rAs ?_) | with_reducible refine rRet ?_ | with_reducible refine rIf ?_ | with_reducible refine wpAny_BinOp ?_ | with_reducible refine rI ?_ | with_reducible refine rS ?_ | ((with_reducible show wpAny _ _ (eval (Expr.Name _ _) _) _ _ _); refine nL (by assumption) rfl ?_) | ((with_reducible show wpAny _ _ (storeName _ _ _) _ _ _); refine rSt (by assumption) ?_; intro _ _) | ((with_reducible show wpAny _ _ (isTrue (Expr.Compare _ [_] [_] _) _ _) _ _ _); refine wpAny_isTrue_Compare1 ?_) | with_reducible refine wpAny_truthy_bool ?_ | with_reducible refine rEq ?_ | ((with_reducible show wpAny _ _ (eval (Expr.Call _ _ [] _) _) _ _ _); refine Call_ ?_) | ((with_reducible show wpAny _ _ (spliced (backTo _ (starEach (_ :: _) _))) _ _ _); refine spliced_more ?_) | ((with_reducible show wpAny _ _ (spliced (backTo _ (starEach [] _))) _ _ _); refine spliced_none ?_) | with_reducible refine wpAny_IfExp ?_) | (dsimp only; first | ((with_reducible show wpAny _ _ (execs (Stmt.Assign [Expr.Name _ _] _ _ :: _) _) _ _ _); refine rAs ?_) | with_reducible refine rRet ?_ | with_reducible refine rIf ?_ | with_reducible refine wpAny_BinOp ?_ | with_reducible refine rI ?_ | with_reducible refine rS ?_ | ((with_reducible show wpAny _ _ (eval (Expr.Name _ _) _) _ _ _); refine nL (by assumption) rfl ?_) | ((with_reducible show wpAny _ _ (storeName _ _ _) _ _ _); refine rSt (by assumption) ?_; intro _ _) | ((with_reducible show wpAny _ _ (isTrue (Expr.Compare _ [_] [_] _) _ _) _ _ _); refine wpAny_isTrue_Compare1 ?_) | with_reducible refine wpAny_truthy_bool ?_ | with_reducible refine rEq ?_ | ((with_reducible show wpAny _ _ (eval (Expr.Call _ _ [] _) _) _ _ _); refine Call_ ?_) | ((with_reducible show wpAny _ _ (spliced (backTo _ (starEach (_ :: _) _))) _ _ _); refine spliced_more ?_) | ((with_reducible show wpAny _ _ (spliced (backTo _ (starEach [] _))) _ _ _); refine spliced_none ?_) | with_reducible refine wpAny_IfExp ?_))
  have hl1 : h₁.IsList l vs.toArray := F.kp.list hl hlt List.not_mem_nil
  have hvl := hi.length
  refine rSub1 ?_
  refine nL F rfl ?_
  refine rSlc ?_
  rw [evalPart_none]
  refine wpAny_pure ?_
  rw [evalPart_some]
  refine rI ?_
  refine wpAny_pure ?_
  refine rLSl hl1 .none (.int _ _) (by simp; (clear hlt hLL; omega)) ?_
  have F2 := (F.psh0 { cls := .type "slice", data := .fields #[.none, .int 11 tk₁, .none] }).psh (LO (slicePick vs.toArray none (some 11) none).toList 0)
  have i2 : IntsAre (slicePick vs.toArray none (some 11) none).toList (ns.take 11) := slice_ints_uptoW hi (by decide)
  show wpAny (model PP w) _ _ _ _ ⟨(h₁.push _).push _, #[], dr, _, os⟩
  generalize hh2 : (h₁.push { cls := .type "slice", data := .fields #[.none, .int 11 tk₁, .none] }).push (LO (slicePick vs.toArray none (some 11) none).toList 0) = h2 at *
  refine rSub1 ?_
  refine rList ?_
  repeat (first | (first | ((with_reducible show wpAny _ _ (execs (Stmt.Assign [Expr.Name _ _] _ _ :: _) _) _ _ _); refine rAs ?_) | with_reducible refine rRet ?_ | with_reducible refine rIf ?_ | with_reducible refine wpAny_BinOp ?_ | with_reducible refine rI ?_ | with_reducible refine rS ?_ | ((with_reducible show wpAny _ _ (eval (Expr.Name _ _) _) _ _ _); refine nL (by assumption) rfl ?_) | ((with_reducible show wpAny _ _ (storeName _ _ _) _ _ _); refine rSt (by assumption) ?_; intro _ _) | ((with_reducible show wpAny _ _ (isTrue (Expr.Compare _ [_] [_] _) _ _) _ _ _); refine wpAny_isTrue_Compare1 ?_) | with_reducible refine wpAny_truthy_bool ?_ | with_reducible refine rEq ?_ | ((with_reducible show wpAny _ _ (eval (Expr.Call _ _ [] _) _) _ _ _); refine Call_ ?_) | ((with_reducible show wpAny _ _ (spliced (backTo _ (starEach (_ :: _) _))) _ _ _); refine spliced_more ?_) | ((with_reducible show wpAny _ _ (spliced (backTo _ (starEach [] _))) _ _ _); refine spliced_none ?_) | with_reducible refine wpAny_IfExp ?_) | (dsimp only; first | ((with_reducible show wpAny _ _ (execs (Stmt.Assign [Expr.Name _ _] _ _ :: _) _) _ _ _); refine rAs ?_) | with_reducible refine rRet ?_ | with_reducible refine rIf ?_ | with_reducible refine wpAny_BinOp ?_ | with_reducible refine rI ?_ | with_reducible refine rS ?_ | ((with_reducible show wpAny _ _ (eval (Expr.Name _ _) _) _ _ _); refine nL (by assumption) rfl ?_) | ((with_reducible show wpAny _ _ (storeName _ _ _) _ _ _); refine rSt (by assumption) ?_; intro _ _) | ((with_reducible show wpAny _ _ (isTrue (Expr.Compare _ [_] [_] _) _ _) _ _ _); refine wpAny_isTrue_Compare1 ?_) | with_reducible refine wpAny_truthy_bool ?_ | with_reducible refine rEq ?_ | ((with_reducible show wpAny _ _ (eval (Expr.Call _ _ [] _) _) _ _ _); refine Call_ ?_) | ((with_reducible show wpAny _ _ (spliced (backTo _ (starEach (_ :: _) _))) _ _ _); refine spliced_more ?_) | ((with_reducible show wpAny _ _ (spliced (backTo _ (starEach [] _))) _ _ _); refine spliced_none ?_) | with_reducible refine wpAny_IfExp ?_))
  refine rNewLg (fun vs => IntsAre vs dflt) (by repeat (first | exact .nil | refine IntsAre.cons _ _ ?_)) (by simp) ?_
  intro vs3 hvs3
  have F3 := F2.psh (LO vs3 0)
  have hl3 := F3.kp.list hl hlt List.not_mem_nil
  refine rSlc ?_
  rw [evalPart_some, evalPart_none]
  refine Call_ ?_
  refine nB G F3 rfl rfl ?_
  refine rCB ?_
  refine spliced_more ?_
  refine nL F3 rfl ?_
  refine spliced_none ?_
  refine rLen hl3 (n := ns.length) (by simp [hvl]) (by (clear hlt hLL; omega)) ?_
  intro tk4 tk5
  refine wpAny_pure ?_
  refine wpAny_pure ?_
  refine rLSlR (LO.is (F3.at 0 rfl)) (.int _ _) .none .none (by decide) (by have := hvs3.length; simp at this; simp; (clear hlen hlt hLL hvl; omega)) ?_
  have i3 : IntsAre (slicePick vs3.toArray (some (ns.length : Int)) none none).toList (dflt.drop ns.length) := by
    have := slice_ints_fromW hvs3 (x := (ns.length : Int)) (by (clear hlt hLL; omega))
    simpa using this
  have F4 := (F3.psh0 { cls := .type "slice", data := .fields #[.int (ns.length : Nat) tk4, .none, .none] }).psh (LO (slicePick vs3.toArray (some (ns.length : Int)) none none).toList 0)
  show wpAny (model PP w) _ _ _ _ ⟨((h2.push (LO vs3 0)).push _).push _, #[], dr, _, os⟩
  have hh1 : h₁.objs.size + 1 = (h₁.push { cls := .type "slice", data := .fields #[.none, .int 11 tk₁, .none] }).objs.size := by rw [Heap.size_push]
  have hh3 : (h2.push (LO vs3 0)).objs.size + 1 = ((h2.push (LO vs3 0)).push { cls := .type "slice", data := .fields #[.int (ns.length : Nat) tk4, .none, .none] }).objs.size := (Heap.size_push ..).symm
  have eA := F4.at 2 rfl
  have eB := F4.at 0 rfl
  rw [← hh1] at eA
  rw [← hh3] at eB
  have i5 := IntsAre.append i2 i3
  have hnl := nums_len ns
  refine rAddL eA eB (by have := i2.length; have := i3.length; simp at *; (clear hlen hLL hvl hlt; omega)) ?_
  have F5 := F4.psh (LO ((slicePick vs.toArray none (some 11) none).toList ++ (slicePick vs3.toArray (some (ns.length : Int)) none none).toList) 0)
  generalize ns.take 11 ++ dflt.drop ns.length = nums at *
  generalize (slicePick vs.toArray none (some 11) none).toList ++ (slicePick vs3.toArray (some (ns.length : Int)) none none).toList = vn at *
  replace F5 := F5.drop (nw' := [(_, LO vn 0), (L + 1, o1), (L + 2, o2), (L + 3, o3), (L + 4, o4), (L + 5, o5)]) (.cons_cons _ (.cons _ (.cons _ (.cons _ (List.Sublist.refl _)))))
  dsimp only
  generalize hlN : (((h2.push (LO vs3 0)).push _).push _).objs.size = lN at *
  generalize (((h2.push (LO vs3 0)).push _).push _).push _ = h6 at *
  clear F2 F3 F4 eA eB hh1 hh3 hl3 hvs3 i2 i3 hl1
  refine rStS F5 ?_
  intro h7 S7 F7
  refine rAs2 ?_
  refine rSub1 ?_
  refine rList ?_
  refine spliced_more ?_
  refine rTupI F7 ?_
  intro D1 h8 tk8 u1 v1 F8
  refine spliced_more ?_
  refine rTupI F8 ?_
  intro D2 h9 tk9 u2 v2 F9
  refine spliced_more ?_
  refine rTupI F9 ?_
  intro D3 h10 tk10 u3 v3 F10
  refine spliced_more ?_
  refine rTupI F10 ?_
  intro D4 h11 tk11 u4 v4 F11
  refine spliced_more ?_
  refine rTupI F11 ?_
  intro D5 h12 tk12 u5 v5 F12
  refine spliced_more ?_
  refine rTupI F12 ?_
  intro D6 h13 tk13 u6 v6 F13
  refine spliced_none ?_
  refine rNewL ?_ (by simp [sizeLine])
  have F14 := F13.psh (LO [.ref D1, .ref D2, .ref D3, .ref D4, .ref D5, .ref D6] 0)
  have hnum : ∀ i, i < 11 → nums[i]? = some (nums.getD i 0) := fun i hi => by rw [List.getElem?_eq_getElem (by (clear hlen hlt hLL hvl hlN; omega))]; simp [List.getD, List.getElem?_eq_getElem (by (clear hlen hlt hLL hvl hlN; omega) : i < nums.length)]
  refine wpAny_BinOp ?_
  refine rSub1 ?_
  refine nL F14 rfl ?_
  refine rI ?_
  refine rIxI (LO.is (F14.at 7 rfl)) i5 0 (nums.getD 0 0) rfl (hnum 0 (by decide)) (by decide) ?_
  intro t15
  refine rI ?_
  refine rMod ((nums.getD 0 0).fmod 6) (by decide) rfl ?_
  obtain ⟨n0, hn0, hn6⟩ : ∃ n0 : Nat, (nums.getD 0 0).fmod 6 = n0 ∧ n0 < 6 := by
    have f0 := Int.fmod_nonneg_of_pos (nums.getD 0 0) (by decide : (0 : Int) < 6)
    have f1 := Int.fmod_lt_of_pos (nums.getD 0 0) (by decide : (0 : Int) < 6)
    exact ⟨((nums.getD 0 0).fmod 6).toNat, by (clear hlen hlt hLL hvl hnl hlN; omega), by (clear hlen hlt hLL hvl hnl hlN; omega)⟩
  obtain ⟨aT, q, p, hiT, ⟨uT, vT, hTu⟩, hshp⟩ : ∃ (aT : Addr) (q p : Nat), ([.ref D1, .ref D2, .ref D3, .ref D4, .ref D5, .ref D6] : List Value)[n0]? = some (.ref aT) ∧ (∃ u v, (h13.push (LO [.ref D1, .ref D2, .ref D3, .ref D4, .ref D5, .ref D6] 0)).get? aT = some (TO q u p v)) ∧ Shp q p := by
    rcases (by (clear hlen hlt hLL hvl hnl hlN hn0; omega) : n0 = 0 ∨ n0 = 1 ∨ n0 = 2 ∨ n0 = 3 ∨ n0 = 4 ∨ n0 = 5) with rfl | rfl | rfl | rfl | rfl | rfl
    · exact ⟨D1, 3, 3, rfl, ⟨_, _, F14.at 6 rfl⟩, by unfold Shp; decide⟩
    · exact ⟨D2, 2, 2, rfl, ⟨_, _, F14.at 5 rfl⟩, by unfold Shp; decide⟩
    · exact ⟨D3, 4, 2, rfl, ⟨_, _, F14.at 4 rfl⟩, by unfold Shp; decide⟩
    · exact ⟨D4, 5, 5, rfl, ⟨_, _, F14.at 3 rfl⟩, by unfold Shp; decide⟩
    · exact ⟨D5, 8, 2, rfl, ⟨_, _, F14.at 2 rfl⟩, by unfold Shp; decide⟩
    · exact ⟨D6, 9, 3, rfl, ⟨_, _, F14.at 1 rfl⟩, by unfold Shp; decide⟩
  obtain ⟨hq2, hq9, hp2, hpq⟩ := shp_bd hshp
  refine rIxV (LO.is (F14.at 0 rfl)) n0 hn0 hiT (by (clear hlen hlt hLL hvl hnl hlN hn0 hq2 hq9 hp2 hpq; omega)) ?_
  refine rTupC F14 rm₁.hd (t := aT) (a := .int q uT) (b := .int p vT) ⟨_, hTu, rfl, _, rfl⟩ 8 (c := L + 1) rfl rfl d1 ?_
  intro h16 tk16 o11 d11 F16
  replace F16 := F16.drop (nw' := [(lN, LO vn 0), (L + 1, o11), (L + 2, o2), (L + 3, o3), (L + 4, o4), (L + 5, o5)]) (.cons _ (.cons _ (.cons _ (.cons _ (.cons _ (.cons _ (.cons _ (List.Sublist.refl _))))))))
  clear F14 F13 F12 F11 F10 F9 F8 hTu hiT
  repeat (first | (first | ((with_reducible show wpAny _ _ (execs (Stmt.Assign [Expr.Name _ _] _ _ :: _) _) _ _ _); refine rAs ?_) | with_reducible refine rRet ?_ | with_reducible refine rIf ?_ | with_reducible refine wpAny_BinOp ?_ | with_reducible refine rI ?_ | with_reducible refine rS ?_ | ((with_reducible show wpAny _ _ (eval (Expr.Name _ _) _) _ _ _); refine nL (by assumption) rfl ?_) | ((with_reducible show wpAny _ _ (storeName _ _ _) _ _ _); refine rSt (by assumption) ?_; intro _ _) | ((with_reducible show wpAny _ _ (isTrue (Expr.Compare _ [_] [_] _) _ _) _ _ _); refine wpAny_isTrue_Compare1 ?_) | with_reducible refine wpAny_truthy_bool ?_ | with_reducible refine rEq ?_ | ((with_reducible show wpAny _ _ (eval (Expr.Call _ _ [] _) _) _ _ _); refine Call_ ?_) | ((with_reducible show wpAny _ _ (spliced (backTo _ (starEach (_ :: _) _))) _ _ _); refine spliced_more ?_) | ((with_reducible show wpAny _ _ (spliced (backTo _ (starEach [] _))) _ _ _); refine spliced_none ?_) | with_reducible refine wpAny_IfExp ?_) | (dsimp only; first | ((with_reducible show wpAny _ _ (execs (Stmt.Assign [Expr.Name _ _] _ _ :: _) _) _ _ _); refine rAs ?_) | with_reducible refine rRet ?_ | with_reducible refine rIf ?_ | with_reducible refine wpAny_BinOp ?_ | with_reducible refine rI ?_ | with_reducible refine rS ?_ | ((with_reducible show wpAny _ _ (eval (Expr.Name _ _) _) _ _ _); refine nL (by assumption) rfl ?_) | ((with_reducible show wpAny _ _ (storeName _ _ _) _ _ _); refine rSt (by assumption) ?_; intro _ _) | ((with_reducible show wpAny _ _ (isTrue (Expr.Compare _ [_] [_] _) _ _) _ _ _); refine wpAny_isTrue_Compare1 ?_) | with_reducible refine wpAny_truthy_bool ?_ | with_reducible refine rEq ?_ | ((with_reducible show wpAny _ _ (eval (Expr.Call _ _ [] _) _) _ _ _); refine Call_ ?_) | ((with_reducible show wpAny _ _ (spliced (backTo _ (starEach (_ :: _) _))) _ _ _); refine spliced_more ?_) | ((with_reducible show wpAny _ _ (spliced (backTo _ (starEach [] _))) _ _ _); refine spliced_none ?_) | with_reducible refine wpAny_IfExp ?_))
  refine rSub1 ?_
  refine nL F16 rfl ?_
  refine rI ?_
  refine rIxI (LO.is (F16.at 0 rfl)) i5 1 (nums.getD 1 0) rfl (hnum 1 (by decide)) (by decide) ?_
  intro t17
  refine rI ?_
  refine rMod ((nums.getD 1 0).fmod 10) (by decide) rfl ?_
  obtain ⟨n, hn, hn1, hn10⟩ : ∃ n : Nat, (1 : Int) + (nums.getD 1 0).fmod 10 = n ∧ 1 ≤ n ∧ n ≤ 10 := by
    have f0 := Int.fmod_nonneg_of_pos (nums.getD 1 0) (by decide : (0 : Int) < 10)
    have f1 := Int.fmod_lt_of_pos (nums.getD 1 0) (by decide : (0 : Int) < 10)
    exact ⟨(1 + (nums.getD 1 0).fmod 10).toNat, by (clear hlen hlt hLL hvl hnl hlN hn0 hn6 hq2 hq9 hp2 hpq; omega), by (clear hlen hlt hLL hvl hnl hlN hn0 hn6 hq2 hq9 hp2 hpq; omega), by (clear hlen hlt hLL hvl hnl hlN hn0 hn6 hq2 hq9 hp2 hpq; omega)⟩
  refine rAdd (n : Int) hn ?_
  refine rStS F16 ?_
  intro h18 S18 F18
  refine rAs ?_
  refine rLC2 ?_
  refine rSub1 ?_
  refine nL F18 rfl ?_
  refine rSlc ?_
  rw [evalPart_some, evalPart_some, evalPart_none]
  refine rI ?_
  refine wpAny_BinOp ?_
  refine rI ?_
  refine nC (c := L + 1) rfl ⟨o11, F18.at 1 rfl, d11⟩ ?_
  refine rAdd ((2 + q : Nat) : Int) (by push_cast; rfl) ?_
  refine wpAny_pure ?_
  have hvn : vn.length = 11 := by rw [i5.length, hnl]
  refine rLSlR (LO.is (F18.at 0 rfl)) (.int _ _) (.int _ _) .none (by decide) (by simp; (clear hlen hlt hLL hvl hnl hlN hn0 hn6 hq2 hq9 hp2 hpq hn hn1 hn10; omega)) ?_
  have i19 : IntsAre (slicePick vn.toArray (some 2) (some ((2 + q : Nat) : Int)) none).toList ((nums.drop 2).take q) := by
    have := slice_ints i5 (x := 2) (y := ((2 + q : Nat) : Int)) (by decide) (by (clear hlen hlt hLL hvl hnl hlN hn0 hn6 hp2 hpq hn hn1 hn10 hvn; omega)) (by (clear hlen hlt hLL hvl hlN hn0 hn6 hp2 hpq hn hn1 hn10 hvn; omega))
    rwa [show ((2 : Int).toNat) = 2 from rfl, show (((2 + q : Nat) : Int) - 2).toNat = q from by (clear hlen hlt hLL hvl hnl hlN hn0 hn6 hp2 hpq hn hn1 hn10 hvn; omega)] at this
  have F20 := (F18.psh0 { cls := .type "slice", data := .fields #[.int 2 (tk16 + 1 + 1 + 1 + 1 + 1 + 1), .int (2 + q : Nat) (tk16 + 1 + 1 + 1 + 1 + 1 + 1 + 1 + 1), .none] }).psh (LO (slicePick vn.toArray (some 2) (some ((2 + q : Nat) : Int)) none).toList 0)
  have hzl : ((nums.drop 2).take q).length = q := by simp [hnl]; (clear hlen hlt hLL hvl hnl hlN hn0 hn6 hp2 hpq hn hn1 hn10 hvn; omega)
  have hvsl := i19.length
  rw [hzl] at hvsl
  rw [Heap.size_push] at F20
  show wpAny (model PP w) _ (pyIter (.ref (h18.objs.size + 1))) _ _ ⟨(h18.push _).push (LO (slicePick vn.toArray (some 2) (some ((2 + q : Nat) : Int)) none).toList 0), #[], dr, _, os⟩
  generalize (slicePick vn.toArray (some 2) (some ((2 + q : Nat) : Int)) none).toList = vS at *
  generalize hlS : h18.objs.size + 1 = lS at *
  generalize (h18.push _).push (LO vS 0) = h20 at *
  refine rLCl (fun i v => ∃ t, v = .int (1 + (((nums.drop 2).take q).getD i 0).fmod 8) t) F20.ok (LO.is (F20.at 0 rfl)) (F20.ok.nt (F20.lo0 (.head _))) (by (clear hlen hlt hLL hvl hnl hlN hn0 hn6 hp2 hpq hn hn1 hn10 hvn hlS; omega)) rm₁.hd (fun _ hy => by simp at hy) ?_ ?_
  · intro C T2 hp2 i v h' tk' m1 nw1 gn1 hi' _ hv B' F' K' hm Q2 q'
    have hil : i < ((nums.drop 2).take q).length := by (clear hlen hlt hLL hvl hnl hlN hn0 hn6 hq2 hq9 hpq hn hn1 hn10 hvn hlS; omega)
    obtain ⟨tv, eqv⟩ := i19.get i _ (List.getElem?_eq_getElem hil)
    rw [hv] at eqv
    cases eqv
    have hgd : ((nums.drop 2).take q).getD i 0 = ((nums.drop 2).take q)[i]'hil := by simp only [List.getD, List.getElem?_eq_getElem hil, Option.getD_some]
    refine wpAny_BinOp ?_
    refine rI ?_
    refine wpAny_BinOp ?_
    refine nL F' hm ?_
    refine rI ?_
    refine rMod _ (by decide) rfl ?_
    refine rAdd _ rfl ?_
    exact q' _ _ _ _ ⟨_, by rw [hgd]⟩ F'.ok Kp.refl B'
  intro lR0 h21 tk21 gn21 yr nr0 k21 K21 hlR0 elR0 alR0 B21
  have F21 := F20.callA k21 K21 hlR0 elR0
  have hrow := alR0.ints
  have hmr : (List.range q).map (fun i => 1 + (((nums.drop 2).take q).getD i 0).fmod 8) = ((nums.drop 2).take q).map fun v => 1 + v.fmod 8 := by
    have := map_range_getD (fun v : Int => 1 + v.fmod 8) (0 : Int) ((nums.drop 2).take q)
    rw [hzl] at this
    exact this
  rw [hvsl, hmr, ← row_cast] at hrow
  refine rSC F21 4 (c := L + 2) rfl rfl d2 ?_
  intro h22 o22 d22 S22 F22
  replace F22 := F22.drop (nw' := [(lR0, LO yr nr0), (L + 1, o11), (L + 2, o22), (L + 3, o3), (L + 4, o4), (L + 5, o5)]) (.cons_cons _ (.cons _ (.cons _ (List.Sublist.refl _))))
  obtain ⟨m22, hm22, F22'⟩ : ∃ m, m = _ ∧ FS g0 g0 [] L h22 m _ := ⟨_, rfl, F22⟩
  obtain ⟨tn, mTimes⟩ : ∃ t, m22 "times" = some (.int n t) := by rw [hm22]; exact ⟨_, rfl⟩
  have mPrime : m22 "prime" = some (.int p vT) := by rw [hm22]; rfl
  have hrl := row_len hnl hq9
  have hrb := row_bd nums q
  generalize rowOf nums q = row at *
  clear hm22 F21 F20 F18 F16 F7 F5 hnum hn hn0
  replace F22 := F22'
  obtain ⟨hq2, hq9, hp2, hpq⟩ := shp_bd hshp
  obtain ⟨hpw1, hpw2, hup, hex9⟩ := pw_bd hshp hn1 hn10
  have hq20 : q ≤ 2 ^ 20 := Nat.le_trans hq9 (by decide)
  have hq0 : 0 < q := Nat.lt_of_lt_of_le (by decide) hq2
  have hqn : q + n ≤ 19 := Nat.add_le_add hq9 hn10
  have h62 : ∀ i : Nat, i < q → i < 2 ^ 62 := fun i h => Nat.lt_of_lt_of_le h (Nat.le_trans hq9 (by decide))
  have hrne : row ≠ [] := fun z => by rw [z] at hrl; simp at hrl; (clear hlen hlt hLL hvl hnl hlN hn6 hn1 hn10 hvn hlS hlR0 hq2 hq9 hp2 hpq hpw1 hpw2 hup hex9; omega)
  obtain ⟨B, hB⟩ : ∃ B : Nat, B = 65537 := ⟨_, rfl⟩
  obtain ⟨cc1, ccd, ccc, ccn⟩ := cof_facts hB hn10 hrne hrb
  have hns := bNs (by (clear hlen hlt hLL hvl hnl hlN hn6 hn1 hn10 hvn hlS hlR0 hq2 hq9 hp2 hpq hpw1 hpw2 hup hex9 hrne hB ccc ccn; omega)) hrb
  refine rAs ?_
  refine Call_ ?_
  refine nG G F22 rfl ?_
  refine rCW (F22.ok.at0 G rfl) rfl ?_
  refine spliced_more ?_
  refine wpAny_BinOp ?_
  refine Call_ ?_
  refine nG G F22 rfl ?_
  refine rCW (F22.ok.at0 G rfl) rfl ?_
  refine spliced_more ?_
  refine nC (c := L + 2) rfl ⟨o22, F22.at 2 rfl, d22⟩ ?_
  refine spliced_more ?_
  refine rI ?_
  refine spliced_none ?_
  refine ⟨F22.ok.at0 G rfl, ?_⟩
  refine c_d2i G F22.ok (n := 16) (ds := row.map fun (x : Nat) => (x : Int)) (rm₁.le (by rw [List.length_map, hrl]; exact Nat.le_trans (Nat.add_le_add_right hq9 10) (by decide))) (LO.is (F22.at 0 rfl)) hrow ?_ (by rw [List.length_map, hrl]; exact Nat.le_trans hq9 (by decide)) (by decide) (F22.ok.nt (F22.lo0 (.head _))) ?_
  · intro d hd
    obtain ⟨x, hx, rfl⟩ := List.mem_map.mp hd
    exact d16 (hrb x hx)
  intro tk23 h23 tks23 k23 K23
  have F23 := F22.call k23 K23
  rw [dsum_nsum]
  dsimp only
  refine wpAny_BinOp ?_
  refine wpAny_BinOp ?_
  refine wpAny_BinOp ?_
  refine rI ?_
  refine rI ?_
  refine rPow 16 65536 rfl (by decide) (by decide) bits16 p16 ?_
  refine rI ?_
  refine rAdd (B : Int) (B_add hB) ?_
  refine nL F23 mTimes ?_
  refine rPow n ((B ^ n : Nat) : Int) rfl (B_ge hB) (by (clear hlen hlt hLL hvl hnl hlN hn6 hvn hzl hvsl hlS hlR0 hrl hq2 hq9 hp2 hpq hpw1 hpw2 hup hex9 hrne hB ccn hns; omega)) (bB hB hn10) (Int.natCast_pow _ _).symm ?_
  refine rMulB ((nsum 16 (cof n row) : Nat) : Int) ccn hns (bBn hB hn10) ?_
  refine spliced_more ?_
  refine rI ?_
  refine spliced_none ?_
  refine ⟨F23.ok.at0 G rfl, ?_⟩
  refine c_i2d G F23.ok (n := 16) (x := nsum 16 (cof n row)) (rm₁.le (by rw [ccc, hrl]; exact Nat.le_trans (Nat.add_le_add_right hqn 10) (by decide))) (by decide) (by decide) (by rw [ccc, hrl]; exact Nat.le_trans hqn (by decide)) ?_
  intro lP vP h24 tk24 k24 K24 hlP hlst24 hi24
  rw [ccd] at hi24
  obtain ⟨oP, eP, clP, nP, dP⟩ := hlst24
  have F24 := F23.callA k24 K24 hlP eP
  dsimp only
  refine rStS F24 ?_
  intro h25 S25 F25
  have hcl : (cof n row).length = q + n := by rw [cof_len, hrl]
  have hlst25 : h25.IsList lP vP.toArray := ⟨oP, F25.at 0 rfl, clP, nP, dP⟩
  have hvpl : vP.length = (cof n row).length := by rw [hi24.length, List.length_map]
  have qlr : ∀ x ∈ cof n row, x ≠ 0 ∧ x < 2 ^ 60 := fun x hx => ⟨(cc1 x hx).1, Nat.lt_of_le_of_lt (cc1 x hx).2 (by decide)⟩
  refine rAs ?_
  refine Call_ ?_
  refine nG G F25 rfl ?_
  refine rCW (F25.ok.at0 G rfl) rfl ?_
  refine spliced_more ?_
  refine rM ?_
  refine rS ?_
  refine rJoinM ?_
  refine rCM ?_
  refine spliced_more ?_
  refine rLC2 ?_
  refine nL F25 rfl ?_
  refine rLCl (fun i v => ∃ t, v = .str (tx (word ((cof n row).getD i 0))) t) F25.ok hlst25 (F25.ok.nt (F25.lo0 (.head _))) (by rw [hvpl, hcl]; exact Nat.le_trans hqn (by decide)) rm₁.hd B21 ?_ ?_
  · intro C T2 hp2 i v h' tk' m1 nw1 gn1 hi' _ hv B' F' K' hm Q2 q'
    have hil : i < (cof n row).length := by (clear hlen hlt hLL hvl hnl hlN hn6 hn1 hn10 hvn hzl hvsl hlS hlR0 hrl hq2 hq9 hpq hpw1 hpw2 hup hex9 hrne hB ccc ccn hns hlP hcl; omega)
    obtain ⟨tv, eqv⟩ := hi24.get i _ (by rw [List.getElem?_map, List.getElem?_eq_getElem hil]; rfl)
    rw [hv] at eqv
    cases eqv
    have hx0 := qlr _ (List.getElem_mem hil)
    have hgd : (cof n row).getD i 0 = (cof n row)[i]'hil := by simp [List.getD, List.getElem?_eq_getElem hil]
    generalize (cof n row)[i]'hil = xi at *
    have hx64 := hx_len64 hx0.1 hx0.2
    refine rM ?_
    refine Call_ ?_
    refine nG G F' rfl ?_
    refine rCW (F'.ok.at0 G rfl) rfl ?_
    refine spliced_more ?_
    refine nL F' hm ?_
    refine spliced_none ?_
    refine ⟨F'.ok.at0 G rfl, ?_⟩
    refine c_i2a G F'.ok (x := xi) (rm₁.le (by (clear hlen hlt hLL hvl hnl hlN hn6 hn1 hn10 hvn hzl hvsl hlS hlR0 hrl hq2 hq9 hpq hpw1 hpw2 hup hex9 hrne hB ccc ccn hns hlP hcl hvpl hi' hil hx0 hgd hx64; omega))) (by (clear hlen hlt hLL hvl hnl hlN hn6 hn1 hn10 hvn hzl hvsl hlS hlR0 hrl hq2 hq9 hpq hpw1 hpw2 hup hex9 hrne hB ccc ccn hns hlP hcl hvpl hi' hil hx0 hgd; omega)) ?_
    intro t3 h3 tk3 k3 K3
    dsimp only
    refine rDecM ?_
    refine rCM ?_
    refine spliced_more ?_
    refine rS ?_
    refine spliced_none ?_
    refine rDec (hx_ne hx0.1) (hx_lt _ _ (Nat.lt_succ_self _)) (by (clear hlen hlt hLL hvl hnl hlN hn6 hn1 hn10 hvn hzl hvsl hlS hlR0 hrl hq2 hq9 hpq hpw1 hpw2 hup hex9 hrne hB ccc ccn hns hlP hcl hvpl hi' hil hx0 hgd; omega)) ?_
    intro t4 tk4'
    exact q' _ h3 tk4' gn1 ⟨t4, by rw [hgd]; rfl⟩ k3 K3 B'
  intro lw h26 tk26 gn26 yw nw26 k26 K26 hlw elw alw B26
  have F26 := F25.callA k26 K26 hlw elw
  have siw := alw.strs
  rw [hvpl, map_range_getD (fun x => tx (word x))] at siw
  have hmm : (cof n row).map (fun x => tx (word x)) = ((cof n row).map word).map tx := by rw [List.map_map]; rfl
  rw [hmm] at siw
  have wok := words_ok qlr
  have wlen : ((cof n row).map word).length = q + n := by rw [List.length_map, hcl]
  refine spliced_none ?_
  refine rJoin (LO.is elw) siw (by decide) (by have := sum_len _ fun v hv => (wok v hv).2.1; rw [wlen] at this; rw [List.length_map, wlen]; exact lem65 hqn this) ?_
  intro t27 tk27
  refine spliced_none ?_
  have tjl := tj_len 32 _ fun v hv => (wok v hv).2.1
  have jn := join_tj 32 ((cof n row).map word)
  refine ⟨F26.ok.at0 G rfl, ?_⟩
  refine c_lr G F26.ok (s := 32) (ws := (cof n row).map word) (rm₁.le (by (clear hlen hlt hLL hvl hnl hlN hn6 hn1 hn10 hvn hzl hvsl hlS hlR0 hrl hq2 hq9 hp2 hpq hpw1 hpw2 hup hex9 hrne hB ccc ccn hns hlP hcl hvpl hlw wlen tjl; omega))) jn (.inr rfl) (by rw [← Array.length_toList]; have e := congrArg List.length jn; exact Nat.le_trans (Nat.le_of_eq e) (Nat.le_trans tjl (by rw [wlen]; exact lem65b hqn))) wok (by rw [wlen]; exact Nat.le_trans hqn (by decide)) ?_
  intro lf vf nf h28 tk28 k28 K28 hlf elf hif
  rw [words_val] at hif
  have F28 := F26.callA k28 K28 hlf elf
  dsimp only
  refine rSC F28 6 (c := L + 3) rfl rfl d3 ?_
  intro h29 o33 d33 S29 F29
  replace F29 := F29.drop (nw' := [(lf, LO vf nf), (lR0, LO yr nr0), (L + 1, o11), (L + 2, o22), (L + 3, o33), (L + 4, o4), (L + 5, o5)]) (.cons_cons _ (.cons _ (.cons _ (List.Sublist.refl _))))
  obtain ⟨m29, hm29, F29'⟩ : ∃ m, m = _ ∧ FS g0 g0 [] L h29 m _ := ⟨_, rfl, F29⟩
  have mT : m29 "times" = some (.int n tn) := by rw [hm29]; exact mTimes
  have mP : m29 "prime" = some (.int p vT) := by rw [hm29]; exact mPrime
  clear hm29 F29 F28 F26 F25 F24 F23 F22
  -- the ring
  refine rAs ?_
  refine rLC2 ?_
  refine Call_ ?_
  refine nB G F29' rfl rfl ?_
  refine rCT ?_
  refine spliced_more ?_
  refine nC (c := L + 1) rfl ⟨o11, F29'.at 2 rfl, d11⟩ ?_
  refine spliced_none ?_
  refine rRange ?_
  intro r1 r2 tk30 hr30
  have F30 := F29'.psh0 { cls := .type "range", data := .fields #[.int 0 r1, .int (q : Nat) uT, .int 1 r2] }
  refine rLCr (fun i v => ∃ t, v = .int (sg i (row.getD i 0)) t) F30.ok hr30 hq20 rm₁.hd B26 ?_ ?_
  · intro C T2 hp2 i v h2' tk2' m1 nw1 gn1 hi' _ hv B' F2' K2' hm Q2 q'
    obtain ⟨tv, rfl⟩ := hv
    have hil : i < row.length := by rw [hrl]; exact hi'
    have hri : (row.map fun (x : Nat) => (x : Int))[i]? = some ((row.getD i 0 : Nat) : Int) := by rw [List.getElem?_map, List.getElem?_eq_getElem hil]; simp [List.getD, List.getElem?_eq_getElem hil]
    have hlr := LO.is (K2'.at F30.ok (F30.lo0 (List.mem_of_getElem? (i := 1) rfl)) (F30.at 1 rfl))
    refine wpAny_IfExp ?_
    refine isTrue_plain ?_
    refine wpAny_BinOp ?_
    refine nL F2' hm ?_
    refine rI ?_
    refine rMod ((i % 2 : Nat) : Int) (by decide) (fmod_nat i 2) ?_
    refine rTru ?_
    by_cases hod : i % 2 = 1
    · refine iteT (by rw [hod]; rfl) ?_
      refine wpAny_UnaryOp ?_
      refine rSub1 ?_
      refine nC (c := L + 2) rfl ⟨o22, K2'.at F30.ok (hLg 2) (F30.at 3 rfl), d22⟩ ?_
      refine nL F2' hm ?_
      refine rIxI hlr hrow i _ rfl hri (h62 i hi') ?_
      intro t
      refine rNeg ?_
      exact q' _ _ _ _ ⟨_, by unfold sg; rw [if_pos hod]⟩ F2'.ok Kp.refl B'
    · have hev : i % 2 = 0 := (Nat.mod_two_eq_zero_or_one i).resolve_right hod
      refine iteF (by rw [hev]; decide) ?_
      refine rSub1 ?_
      refine nC (c := L + 2) rfl ⟨o22, K2'.at F30.ok (hLg 2) (F30.at 3 rfl), d22⟩ ?_
      refine nL F2' hm ?_
      refine rIxI hlr hrow i _ rfl hri (h62 i hi') ?_
      intro t
      exact q' _ _ _ _ ⟨_, by unfold sg; rw [if_neg hod]⟩ F2'.ok Kp.refl B'
  intro lR h31 tk31 gn31 yg ng k31 K31 hlR elR alR B31
  have F31 := F30.callA k31 K31 hlR elR
  have hring : IntsAre yg (ring0 q row) := alR.ints
  refine rSC F31 6 (c := L + 4) rfl rfl d4 ?_
  intro h32 o44 d44 S32 F32
  replace F32 := F32.drop (nw' := [(lR, LO yg ng), (lf, LO vf nf), (L + 1, o11), (L + 3, o33), (L + 4, o44), (L + 5, o5)]) (.cons_cons _ (.cons_cons _ (.cons _ (.cons_cons _ (.cons _ (List.Sublist.refl _))))))
  clear F30 F31 F29'
  refine rForL ?_
  refine Call_ ?_
  refine nB G F32 rfl rfl ?_
  refine rCT ?_
  refine spliced_more ?_
  refine nL F32 mT ?_
  refine spliced_none ?_
  refine rRange ?_
  intro r3 r4 tk33 hr33
  have F33 := F32.psh0 { cls := .type "range", data := .fields #[.int 0 r3, .int (n : Nat) tn, .int 1 r4] }
  generalize h32.push { cls := .type "range", data := .fields #[.int 0 r3, .int (n : Nat) tn, .int 1 r4] } = h33 at *
  refine wpAny_pyIter_range hr33 (small_n hn10) ?_
  rw [rangeSize_one, rs_n]
  have F34 := F33.psh (rgO 0 n)
  dsimp only
  generalize hit0 : h33.objs.size = it at *
  generalize h33.push (rgO 0 n) = h34 at *
  have hrl0 : (ring0 q row).length = q := by simp [ring0]
  have hlz : ∀ j, (itz j (ring0 q row)).length = q := fun j => by rw [itz_len, hrl0]
  refine rLoop (fun i s => ∃ j : Nat, ∃ h' gn' tk' mm lR yg ng o44 o', s = ⟨h', gn', dr, tk', os⟩ ∧ FS g0 g0 [] L h' mm [(it, o'), (lR, LO yg ng), (lf, LO vf nf), (L + 1, o11), (L + 3, o33), (L + 4, o44), (L + 5, o5)] ∧ o' = rgO j ((n : Int) - j) ∧ i + j = n ∧ IntsAre yg (itz j (ring0 q row)) ∧
    o44.data = .cell (some (.ref lR)) ∧ AllB gn' ∧ mm "times" = some (.int n tn) ∧ mm "prime" = some (.int p vT)) ?_ n ?_
  · rintro J hJ i s ⟨j, h', gn', tk', mm, lR, yg, ng, o44, o', rfl, F', ho', hij, hyg, d44, hB', mT', mP'⟩
    subst ho'
    cases i with
    | zero =>
      refine wpAny_pyNext_range_end rm₁.hd (F'.at 0 rfl) (le0 hij) ?_
      intro h35 E35
      have F35 := F'.dropX (fun vs q t z e => by cases z; cases e) E35
      have hjn : n = j := by rw [← hij, Nat.zero_add]
      subst hjn
      show wpAny (model PP w) _ (execs _ _) _ _ ⟨h35, gn', dr, _, os⟩
      obtain ⟨u, hu⟩ : ∃ u, u = q / p := ⟨_, rfl⟩
      have hpwe : p ^ ((n - u) / (q - u)) = pw q p n := by rw [hu]; rfl
      have hwe := weis hshp hn1 hn10 hrl0
      rw [← hu] at hup hex9
      have hlog : ∀ d : Nat, d < 2 ^ 4 → ((d : Int)).natAbs.log2 < 9000 := fun d hd => by rw [Int.natAbs_natCast]; exact log2_le hd (by decide)
      refine rAs ?_
      refine wpAny_BinOp ?_
      refine nC (c := L + 1) rfl ⟨o11, F35.at 2 rfl, d11⟩ ?_
      refine nL F35 mP' ?_
      refine rFdiv (u : Int) (by rw [hu]; exact fdivN q p) (ne0 (Nat.lt_of_lt_of_le (by decide) hp2)) (hlog p (Nat.lt_of_le_of_lt (Nat.le_trans hpq hq9) (by decide))) ?_
      refine rStS F35 ?_
      intro h40 S40 F40
      refine rAs ?_
      refine wpAny_BinOp ?_
      refine nL F40 mP' ?_
      refine Call_ ?_
      refine nB G F40 rfl rfl ?_
      refine rCB ?_
      refine spliced_more ?_
      refine rI ?_
      refine spliced_more ?_
      refine wpAny_BinOp ?_
      refine wpAny_BinOp ?_
      refine nL F40 mT' ?_
      refine nL F40 rfl ?_
      refine rSub ((n : Int) - (u : Int)) rfl ?_
      refine wpAny_BinOp ?_
      refine nC (c := L + 1) rfl ⟨o11, F40.at 2 rfl, d11⟩ ?_
      refine nL F40 rfl ?_
      refine rSub ((q - u : Nat) : Int) (subc hup) ?_
      refine rFdiv (((n : Int) - (u : Int)).fdiv ((q - u : Nat) : Int)) rfl (ne0 (Nat.sub_pos_of_lt hup)) (hlog _ (Nat.lt_of_le_of_lt (Nat.le_trans (Nat.sub_le _ _) hq9) (by decide))) ?_
      refine spliced_none ?_
      refine rMax F40 rm₁.hd ?_
      intro h41 tk41 F41
      rw [maxE (Nat.sub_pos_of_lt hup)]
      refine rPowN p ((n - u) / (q - u)) hp2 rfl rfl (bitsP9 (Nat.le_trans hpq hq9) hex9) ?_
      rw [hpwe]
      generalize pw q p n = M at *
      refine rSC F41 5 (c := L + 5) rfl rfl d5 ?_
      intro h42 o55 d55 S42 F42
      refine rAsU ?_
      refine Call_ ?_
      refine nB G F42 rfl rfl ?_
      refine rCT ?_
      refine spliced_more ?_
      refine nC (c := L + 1) rfl ⟨o11, F42.at 2 rfl, d11⟩ ?_
      refine spliced_none ?_
      refine rRange ?_
      intro r7 r8 tk43 hr43
      have F43 := F42.psh0 { cls := .type "range", data := .fields #[.int 0 r7, .int (q : Nat) uT, .int 1 r8] }
      have hcl : (cof n row).length = q + n := by rw [cof_len, hrl]
      refine rLCrR (fun i v => ∃ t, v = .int (ST q i 0 (cof n row)) t) F43.ok hr43 hq20 rm₁.hd hB' ?_ ?_
      · intro C T2 hp2 i v h2' tk2' m1 nw1 gn1 hi' _ hv B' F2' K2' hm Q2 q'
        obtain ⟨tv, rfl⟩ := hv
        have hlf0 := F43.lo0 (List.mem_of_getElem? (i := 1) rfl)
        refine Call_ ?_
        refine nG G F2' rfl ?_
        refine rCW (F2'.ok.at0 G rfl) rfl ?_
        refine spliced_more ?_
        refine nC (c := L + 3) rfl ⟨o33, K2'.at F43.ok (hLg 3) (F43.at 3 rfl), d33⟩ ?_
        refine spliced_more ?_
        refine nL F2' hm ?_
        refine spliced_more ?_
        refine nC (c := L + 1) rfl ⟨o11, K2'.at F43.ok (hLg 1) (F43.at 2 rfl), d11⟩ ?_
        refine spliced_none ?_
        refine ⟨F2'.ok.at0 G rfl, ?_⟩
        refine c_sum G F2'.ok (rm₁.le (by (clear hlen hlt hLL hvl hnl hlN hn6 hn1 hn10 hvn hzl hvsl hlS hlR0 hrl hq2 hq9 hpq hrne hB ccc ccn hns hlP hvpl hlw wlen tjl hlf hlR hit0 hrl0 hij hex9 hup hu hpw1 hpw2 hpwe hcl hi' hlf0; omega))) (LO.is (K2'.at F43.ok hlf0 (F43.at 1 rfl))) (F2'.ok.nt hlf0) hif (by rw [hcl]; exact Nat.le_trans hqn (by decide)) hq0 hi' hq9 B' ?_
        intro t h3' gn3 tks3 k3 K3 B3
        dsimp only
        exact q' _ h3' _ gn3 ⟨t, rfl⟩ k3 K3 B3
      intro C44 T44 hp44 lS h44 tk44 gn44 mm44 ysS nS FD KD hlS hCD alS B44
      have hsum := alS.ints
      have hre := ring_eq hq0 hrl n
      rw [hre] at hsum
      have hzb : ∀ i, i < q → ((itz n (ring0 q row)).getD i 0).natAbs < 2 ^ 18 - 1 := fun i hi' => by
        rw [← hre, getD_map_range _ _ _ hi']
        have := ST_abs (q := q) (k := i) (M := 8192) 0 (cof n row) fun x hx => (cc1 x hx).2
        rw [hcl] at this
        have h2 : 8192 * (q + n) ≤ 8192 * 19 := Nat.mul_le_mul_left _ hqn
        exact Nat.lt_of_le_of_lt (Nat.le_trans this h2) (by decide)
      have hzl := hlz n
      have hwz : ∀ i, i < q → (itz n (ring0 q row)).getD i 0 % (M : Int) = 0 := fun i hi' => hwe _ (by
        have := getD_some (l := itz n (ring0 q row)) (i := i) (by rw [hlz n]; exact hi')
        exact List.mem_of_getElem? this)
      generalize itz n (ring0 q row) = zs at *
      refine compS F43 FD KD hCD hlS ?_
      intro h45 tk45 F45
      refine rAsU ?_
      refine nL F45 rfl ?_
      refine rNest (dX zs M) (dY zs M) F45.ok (LO.is (F45.at 0 rfl)) hsum (F45.ok.nt (F45.lo0 (.head _))) (by rw [hzl]; exact Nat.le_trans hq9 (by decide)) rm₁.hd B44 (by decide) ?_ ?_ ?_
      · intro C T2 hp2 h1' tk1 m1 nw1 gn1 F1' Q2 q'
        refine Call_ ?_
        refine nB G F1' rfl rfl ?_
        refine rCT ?_
        refine spliced_more ?_
        refine rI ?_
        refine spliced_none ?_
        refine rRange ?_
        intro t1 t2 tk' hr'
        exact q' _ _ _ _ _ _ (F1'.psh0 _).ok ⟨by rw [Heap.size_push]; (clear hlen hlt hLL hvl hnl hlN hn6 hn1 hn10 hvn hvsl hlR0 hrl hq2 hq9 hpq hrne hB ccc ccn hns hlP hvpl hlw wlen tjl hlf hlR hit0 hrl0 hij hex9 hup hu hpw1 hpw2 hpwe hcl hlS hCD hzl; omega), fun b o e _ _ => Heap.get?_push_of_some _ e⟩ hr'
      · intro C T2 hp2 i kk h1' tk1 m1 nw1 gn1 tA tB hi' hkk B' F1' K1' hm hm1 Q2 q'
        have hza := hzb i (by rw [← hzl]; exact hi')
        obtain ⟨nb, hnb, hnb1, hcn1, hcn2⟩ := idm_ok hpw2 (a := zs.getD i 0 - (kk : Int)) (nabs hza hkk)
        refine Call_ ?_
        refine nG G F1' rfl ?_
        refine rCW (F1'.ok.at0 G rfl) rfl ?_
        refine spliced_more ?_
        refine wpAny_BinOp ?_
        refine nL F1' hm ?_
        refine nL F1' hm1 ?_
        refine rSub (zs.getD i 0 - (kk : Int)) rfl ?_
        refine spliced_more ?_
        refine nC (c := L + 5) rfl ⟨o55, K1'.at F45.ok (hLg 5) (F45.at 6 rfl), d55⟩ ?_
        refine spliced_none ?_
        refine ⟨F1'.ok.at0 G rfl, ?_⟩
        refine c_idm G F1'.ok hnb (rm₁.le (by (clear hlen hlt hLL hvl hnl hlN hn6 hn1 hn10 hvn hvsl hlR0 hrl hq2 hq9 hpq hrne hB ccc ccn hns hlP hvpl hlw wlen tjl hlf hlR hit0 hrl0 hij hex9 hup hu hpw1 hpw2 hpwe hcl hlS hCD hzl hi' hkk hza hnb hnb1 hcn2; omega))) (by (clear hlen hlt hLL hvl hnl hlN hn6 hn1 hn10 hvn hvsl hlR0 hrl hq2 hq9 hpq hrne hB ccc ccn hns hlP hvpl hlw wlen tjl hlf hlR hit0 hrl0 hij hex9 hup hu hcl hlS hCD hzl hi' hkk hza hnb hnb1 hcn1 hcn2; omega)) (by (clear hlen hlt hLL hvl hnl hlN hn6 hn1 hn10 hvn hvsl hlR0 hrl hq2 hq9 hpq hrne hB ccc ccn hns hlP hvpl hlw wlen tjl hlf hlR hit0 hrl0 hij hex9 hup hu hpw1 hpw2 hpwe hcl hlS hCD hzl hi' hkk hza hcn1 hcn2; omega)) (by (clear hlen hlt hLL hvl hnl hlN hn6 hn1 hn10 hvn hvsl hlR0 hrl hq2 hq9 hpq hrne hB ccc ccn hns hlP hvpl hlw wlen tjl hlf hlR hit0 hrl0 hij hex9 hup hu hpw1 hpw2 hpwe hcl hlS hCD hzl hi' hkk hza hnb hnb1 hcn2; omega)) hcn2 ?_
        intro t u1 u2 h3' tks3 k3 K3 ht hT
        obtain ⟨oT, eT, cT, nT, dT⟩ := hT
        dsimp only
        exact q' t oT h3' _ gn1 k3 K3 ht eT cT ⟨nT, u1, u2, by rw [dX_eq hkk, dY_eq hkk]; exact dT⟩ B'
      intro C46 T46 hp46 lD h46 tk46 gn46 mm46 ysD nD TL FD2 KD2 hlD hCD2 hge hTL B46
      refine compS2 F45 FD2 KD2 hCD2 hlD hge ?_
      intro h47 tk47 F47 eTL
      refine rRet ?_
      refine BoolOp_and ?_
      refine wpAny_Compare1 ?_
      refine nL F47 rfl ?_
      refine nC (c := L + 4) rfl ⟨o44, F47.at 6 rfl, d44⟩ ?_
      refine rEqLL (LO.is (F47.at 1 rfl)) (LO.is (F47.at 2 rfl)) hsum hyg (rm₁.le (by (clear hlen hlt hLL hvl hnl hlN hn6 hn1 hn10 hvn hvsl hlR0 hrl hq2 hq9 hp2 hpq hrne hB ccc ccn hns hlP hvpl hlw wlen tjl hlf hlR hit0 hrl0 hij hex9 hup hu hpw1 hpw2 hpwe hcl hlS hCD hzl hlD hCD2; omega))) ?_
      refine wpAny_truthy_bool ?_
      refine iteT rfl ?_
      refine BoolOp_one ?_
      refine wpAny_Compare1 ?_
      refine nL F47 rfl ?_
      refine rLC2 ?_
      refine nC (c := L + 4) rfl ⟨o44, F47.at 6 rfl, d44⟩ ?_
      refine rNest (dX zs M) (dY zs M) F47.ok (LO.is (F47.at 2 rfl)) hyg (F47.ok.nt (F47.lo0 (List.mem_of_getElem? (i := 2) rfl))) (by rw [hzl]; exact Nat.le_trans hq9 (by decide)) rm₁.hd B46 (by decide) ?_ ?_ ?_
      · intro C T2 hp2 h1' tk1 m1 nw1 gn1 F1' Q2 q'
        refine Call_ ?_
        refine nB G F1' rfl rfl ?_
        refine rCT ?_
        refine spliced_more ?_
        refine rI ?_
        refine spliced_none ?_
        refine rRange ?_
        intro t1 t2 tk' hr'
        exact q' _ _ _ _ _ _ (F1'.psh0 _).ok ⟨by rw [Heap.size_push]; (clear hlen hlt hLL hvl hnl hlN hn6 hn1 hn10 hvn hvsl hlR0 hrl hq2 hq9 hpq hrne hB ccc ccn hns hlP hvpl hlw wlen tjl hlf hlR hit0 hrl0 hij hex9 hup hu hpw1 hpw2 hpwe hcl hlS hCD hzl hlD hCD2; omega), fun b o e _ _ => Heap.get?_push_of_some _ e⟩ hr'
      · intro C T2 hp2 i kk h1' tk1 m1 nw1 gn1 tA tB hi' hkk B' F1' K1' hm hm1 Q2 q'
        have hza := hwz i (by rw [← hzl]; exact hi')
        have eP : h1'.get? (L + 5) = some o55 := K1'.at F47.ok (hLg 5) (F47.at 7 rfl)
        refine Tuple_ ?_
        refine spliced_more ?_
        refine wpAny_BinOp ?_
        refine wpAny_BinOp ?_
        refine nL F1' hm ?_
        refine nL F1' hm1 ?_
        refine rSub (zs.getD i 0 - (kk : Int)) rfl ?_
        refine nC (c := L + 5) rfl ⟨o55, eP, d55⟩ ?_
        refine rFdiv (dX zs M (2 * i + kk)) (by rw [dX_eq hkk]; exact Int.fdiv_eq_ediv_of_nonneg _ (Int.natCast_nonneg _)) (by (clear hlen hlt hLL hvl hnl hlN hn6 hn1 hn10 hvn hvsl hlR0 hrl hq2 hq9 hpq hrne hB ccc ccn hns hlP hvpl hlw wlen tjl hlf hlR hit0 hrl0 hij hex9 hup hu hcl hlS hCD hzl hlD hCD2 hi' hkk hza; omega)) (by rw [Int.natAbs_natCast]; exact log2_le hpw2 (by decide)) ?_
        refine spliced_more ?_
        refine wpAny_BinOp ?_
        refine wpAny_UnaryOp ?_
        refine nL F1' hm1 ?_
        refine rNeg ?_
        refine nC (c := L + 5) rfl ⟨o55, eP, d55⟩ ?_
        refine rMod (dY zs M (2 * i + kk)) (by (clear hlen hlt hLL hvl hnl hlN hn6 hn1 hn10 hvn hvsl hlR0 hrl hq2 hq9 hpq hrne hB ccc ccn hns hlP hvpl hlw wlen tjl hlf hlR hit0 hrl0 hij hex9 hup hu hcl hlS hCD hzl hlD hCD2 hi' hkk hza; omega)) (by rw [dY_eq hkk]; exact neg_mod hza) ?_
        refine spliced_none ?_
        refine rNewT ?_ (by simp [sizeLine])
        exact q' h1'.objs.size _ _ _ gn1 (F1'.psh0 _).ok ⟨by rw [Heap.size_push]; (clear hlen hlt hLL hvl hnl hlN hn6 hn1 hn10 hvn hvsl hlR0 hrl hq2 hq9 hpq hrne hB ccc ccn hns hlP hvpl hlw wlen tjl hlf hlR hit0 hrl0 hij hex9 hup hu hpw1 hpw2 hpwe hcl hlS hCD hzl hlD hCD2 hi' hkk hza; omega), fun b o e _ _ => Heap.get?_push_of_some _ e⟩ (Nat.le_refl _) (Heap.get?_push_size _ rfl) rfl ⟨_, _, _, rfl⟩ B'
      intro C48 T48 hp48 lE h48 tk48 gn48 mm48 ysE nE TL2 FD3 KD3 hlE hCD3 hge3 hTL2 B48
      refine ⟨_, FD3.ns, fun h49 S49 => ?_⟩
      obtain ⟨k49, K49, e49⟩ := FD3.out S49
      have K50 : Kp [] h47 h49 := ⟨Nat.le_trans KD3.sz (same_sz S49), fun b o e q1 q2 => (S49.2 b (Nat.ne_of_lt (Nat.lt_of_lt_of_le (Heap.lt_size e) hCD3))).trans (KD3.kp b o e q1 q2)⟩
      have hg45 : g0.objs.size ≤ h45.objs.size := F45.ok.sz
      refine rEqTT (N := 2 * q) (X := dX zs M) (Y := dY zs M) (LO.is (K50.at F47.ok (F47.lo0 (.head _)) (F47.at 0 rfl))) (LO.is (e49 _ (.head _))) (by rw [hTL.ys, List.length_map, hTL.len, hzl]) (by rw [hTL2.ys, List.length_map, hTL2.len, hzl]) ?_ (rm₁.le (by (clear hlen hlt hLL hvl hnl hlN hn6 hn1 hn10 hvn hvsl hlR0 hrl hq2 hq9 hp2 hpq hrne hB ccc ccn hns hlP hvpl hlw wlen tjl hlf hlR hit0 hrl0 hij hex9 hup hu hpw1 hpw2 hpwe hcl hlS hCD hzl hlD hCD2 hlE hCD3 hg45; omega))) ?_
      · intro j hj
        obtain ⟨p1, hp1⟩ : ∃ p1, TL[j]? = some p1 := ⟨_, List.getElem?_eq_getElem (by rw [hTL.len, hzl]; exact hj)⟩
        obtain ⟨p2, hp2⟩ : ∃ p2, TL2[j]? = some p2 := ⟨_, List.getElem?_eq_getElem (by rw [hTL2.len, hzl]; exact hj)⟩
        obtain ⟨c1, n1, u1, u2, dd1⟩ := hTL.at' j p1 hp1
        obtain ⟨c2, n2, u3, u4, dd2⟩ := hTL2.at' j p2 hp2
        have m1 := List.mem_of_getElem? hp1
        have m2 := List.mem_of_getElem? hp2
        have g1 := eTL p1 m1
        have g2 := e49 p2 (.tail _ m2)
        have hlt1 := Heap.lt_size g1
        have hge2 := hge3 p2 m2
        refine ⟨p1.1, p2.1, u1, u2, u3, u4, by rw [hTL.ys, List.getElem?_map, hp1]; rfl, by rw [hTL2.ys, List.getElem?_map, hp2]; rfl, Nat.ne_of_lt (Nat.lt_of_lt_of_le hlt1 hge2), ?_, ?_⟩
        · exact ⟨p1.2, K50.at F47.ok (Nat.le_trans hg45 (hge p1 m1)) g1, c1, n1, dd1⟩
        · exact ⟨p2.2, g2, c2, n2, dd2⟩
      exact h _ _ _ k49 B48
    | succ i =>
      refine wpAny_pyNext_range_item (F'.at 0 rfl) (pos1 hij) ?_
      intro h35 e35 S35
      have F35 := F'.updS 0 rfl (fun vs q t z e => by cases z; cases e) S35 e35
      refine rStS F35 ?_
      intro h36 S36 F36
      refine rAs ?_
      refine rLC2 ?_
      refine Call_ ?_
      refine nB G F36 rfl rfl ?_
      refine rCT ?_
      refine spliced_more ?_
      refine nC (c := L + 1) rfl ⟨o11, F36.at 3 rfl, d11⟩ ?_
      refine spliced_none ?_
      refine rRange ?_
      intro r5 r6 tk37 hr37
      have F37 := F36.psh0 { cls := .type "range", data := .fields #[.int 0 r5, .int (q : Nat) uT, .int 1 r6] }
      have hzl := hlz j
      generalize hlzg : itz j (ring0 q row) = lz at *
      refine rLCr (fun i v => ∃ t, v = .int (lz.getD i 0 - lz.getD ((i + q - 1) % q) 0) t) F37.ok hr37 hq20 rm₁.hd hB' ?_ ?_
      · intro C T2 hp2 i v h2' tk2' m1 nw1 gn1 hi' _ hv B' F2' K2' hm Q2 q'
        obtain ⟨tv, rfl⟩ := hv
        have hlr := LO.is (K2'.at F37.ok (F37.lo0 (List.mem_of_getElem? (i := 1) rfl)) (F37.at 1 rfl))
        have eR : h2'.get? (L + 4) = some o44 := K2'.at F37.ok (hLg 4) (F37.at 5 rfl)
        refine wpAny_BinOp ?_
        refine rSub1 ?_
        refine nC (c := L + 4) rfl ⟨o44, eR, d44⟩ ?_
        refine nL F2' hm ?_
        refine rIxI hlr hyg i _ rfl (getD_some (by rw [hzl]; exact hi')) (h62 i hi') ?_
        intro t
        refine rSub1 ?_
        refine nC (c := L + 4) rfl ⟨o44, eR, d44⟩ ?_
        refine wpAny_BinOp ?_
        refine nL F2' hm ?_
        refine rI ?_
        refine rSub ((i : Int) - 1) rfl ?_
        by_cases h0 : i = 0
        · subst h0
          dsimp only at q'
          rw [prev_0 hq0] at q'
          refine rIxN hlr hyg 1 (lz.getD (q - 1) 0) rfl (by decide) (by rw [hzl]; exact hq0) (by rw [hzl]; exact getD_some (by rw [hzl]; exact Nat.sub_lt hq0 Nat.one_pos)) (by decide) ?_
          intro t'
          refine rSub _ rfl ?_
          exact q' _ _ _ _ ⟨_, rfl⟩ F2'.ok Kp.refl B'
        · dsimp only at q'
          rw [prev_of hi' h0] at q'
          refine rIxI hlr hyg (i - 1) (lz.getD (i - 1) 0) (subone h0) (getD_some (by rw [hzl]; exact Nat.lt_of_le_of_lt (Nat.sub_le i 1) hi')) (h62 _ (Nat.lt_of_le_of_lt (Nat.sub_le i 1) hi')) ?_
          intro t'
          refine rSub _ rfl ?_
          exact q' _ _ _ _ ⟨_, rfl⟩ F2'.ok Kp.refl B'
      intro lR' h38 tk38 gn38 yg' ng' k38 K38 hlR' elR' alR' B38
      have F38 := F37.callA k38 K38 hlR' elR'
      have hnew := alR'.ints
      rw [stz_eq hzl] at hnew
      refine rSC F38 6 (c := L + 4) rfl rfl d44 ?_
      intro h39 o44' d44' S39 F39
      refine rNil ?_
      refine ⟨i, Nat.lt_succ_self i, hJ _ _ ⟨j + 1, h39, gn38, _, _, lR', yg', ng', o44', _, rfl, FS.perm (F39.drop (nw' := [(lR', LO yg' ng'), (it, _), (lf, LO vf nf), (L + 1, o11), (L + 3, o33), (L + 4, o44'), (L + 5, o5)]) (.cons_cons _ (.cons_cons _ (.cons _ (List.Sublist.refl _))))) (List.Perm.swap _ _ _), ?_, (Nat.add_right_comm i 1 j).symm.trans hij, ?_, d44', B38, mT', mP'⟩⟩
      · show rgO ((j : Int) + 1) ((n : Int) - j - 1) = _
        rw [show (j : Int) + 1 = ((j + 1 : Nat) : Int) from by (clear hlen hlt hLL hvl hnl hlN hn6 hn1 hn10 hvn hvsl hlS hlR0 hrl hq2 hq9 hp2 hpq hpw1 hpw2 hup hex9 hrne hB ccc ccn hns hlP hcl hvpl hlw wlen tjl hlf hlR hit0 hrl0 hij hzl hlR'; omega), show (n : Int) - j - 1 = (n : Int) - ((j + 1 : Nat) : Int) from by (clear hlen hlt hLL hvl hnl hlN hn6 hn1 hn10 hvn hvsl hlS hlR0 hrl hq2 hq9 hp2 hpq hpw1 hpw2 hup hex9 hrne hB ccc ccn hns hlP hcl hvpl hlw wlen tjl hlf hlR hit0 hrl0 hij hzl hlR'; omega)]
      · rw [itz, hlzg]
        exact hnew
  · exact ⟨0, h34, gn31, _, _, lR, yg, ng, o44, _, rfl, F34, rfl, rfl, hring, d44, B31, mT, mP⟩
end Mine

theorem PySem.Challenge.cw_we0018_01_holds : PySem.Challenge.rw_we0018_01.Holds := by
  refine Mine.hd ?_
  k_fill
  intro w s₀ s₁ mg mb G Y fa o pm cd doc dV kV ho hd hcd hD hmg hg args vals as hpre hlay hrd hwl hlo
  have KX := km_in_of Y
  km_tabs Y
  have X := (Ground.X G).1
  have V := (Ground.X G).2
  refine Ground.open G ?_
  intro T B D TE TW
  wrow_args hpre hlay hrd hwl hlo
  first | refine callC_kw (enter_call ?_) | refine enter_call ?_
  have Gl := Mine.gd_of T KX hT8
  obtain ⟨hp1, gn1, dr1, tk1, os1⟩ := s₁
  cases hg
  have hLst := ‹Heap.IsList _ _ _›
  have hInt := ‹IntsAre _ _›
  refine Mine.c_law Gl hmg ⟨rfl, by decide, by decide⟩ hLst hInt (by omega) (fun hm => by
    have e := Gl.tb _ hm
    obtain ⟨o, e2, c, _⟩ := hLst
    rw [e] at e2
    cases e2
    cases c) ?_
  intro h' gn' tks k B
  exact Mine.law_end (s₁ := ⟨hp1, #[], dr1, tk1, os1⟩) Gl k B (fun _ => rfl) (by first | rfl | (with_unfolding_all rfl) | decide | (simp [OpenRow.claim]; done) | skip)
