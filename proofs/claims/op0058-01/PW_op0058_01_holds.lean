import PyProof.Rows.All
import Wide.All
import OpenK.AllK
import Wide.FinOn
import Lean
import PySem.Challenge.RW_op0058_01
set_option Elab.async false
set_option maxRecDepth 100000

section
open PySem PySem.W PyProof.Rows
namespace Mine
open AutoSeq1 (wpAny_loadPart')
open MeetsSeq MeetsSeq2 MeetsSeq3 SeqRoads2 SeqAt

/-! ## list < list for items [str, int] -/
def itLt (a b : Str × Int) : Bool := if a.1 == b.1 then decide (a.2 < b.2) else decide (a.1.cps.toList < b.1.cps.toList)

theorem lt_loop2 (l b : Addr) (items items2 : Array Value) (n n2 : Nat) (dd dd2 : Option Addr) (sl sl2 : Array (Option Value)) (hs1 : items.size = 2) (hs2 : items2.size = 2) :
    Meets (Builtin.«list.__eq__.loop» ⟨[.ref l, .ref b, rawInt (2 : Nat), rawInt 0], []⟩)
      (fun _ R s => s.heap.get? l = some { cls := .type "list", dict := dd, data := .seq items n, slots := sl } ∧ s.heap.get? b = some { cls := .type "list", dict := dd2, data := .seq items2 n2, slots := sl2 } ∧
        R (.ok (.ret (.bool false))) s) := by
  intro prog w A R s h
  obtain ⟨hp, g, d, tk, os⟩ := s; obtain ⟨hl, hb, h⟩ := h
  wp_walk using wpAny_loadPart' hl, wpAny_loadPart' hb
  have hi1 : items[((2 : Nat) : Int).toNat]? = none := by simp; omega
  have hi2 : items2[((2 : Nat) : Int).toNat]? = none := by simp; omega
  rw [hi1, hi2]
  wp_walk using wpAny_loadPart' hl, wpAny_loadPart' hb
  show R (.ok (.ret (.bool (decide (items.size < items2.size))))) _
  rw [hs1, hs2]
  exact h

theorem lt_loop1 (l b : Addr) (items items2 : Array Value) (x y : Int) (u u2 : Tok) (n n2 : Nat) (dd dd2 : Option Addr) (sl sl2 : Array (Option Value)) (hs1 : items.size = 2) (hs2 : items2.size = 2)
    (hx : items[1]? = some (.int x u)) (hy : items2[1]? = some (.int y u2)) :
    Meets (Builtin.«list.__eq__.loop» ⟨[.ref l, .ref b, rawInt (1 : Nat), rawInt 0], []⟩)
      (fun _ R s => s.heap.get? l = some { cls := .type "list", dict := dd, data := .seq items n, slots := sl } ∧ s.heap.get? b = some { cls := .type "list", dict := dd2, data := .seq items2 n2, slots := sl2 } ∧
        R (.ok (.ret (.bool (decide (x < y))))) s) := by
  intro prog w A R s h
  obtain ⟨hp, g, d, tk, os⟩ := s; obtain ⟨hl, hb, h⟩ := h
  wp_walk using wpAny_loadPart' hl, wpAny_loadPart' hb
  have hi1 : items[((1 : Nat) : Int).toNat]? = some (.int x u) := hx
  have hi2 : items2[((1 : Nat) : Int).toNat]? = some (.int y u2) := hy
  rw [hi1, hi2]
  refine wpAny_bind (EqAt.int_int x u y u2 prog w _ _ ?_)
  cases hb' : (x == y) with
  | true =>
    have e : x = y := by simpa using hb'
    wp_walk
    exact ⟨plainId_quiet plain_eq_loop _, codeAny_builtin entry_eq_loop (by
      rw [Around.under_plainId plain_eq_loop _]
      exact lt_loop2 l b items items2 n n2 dd dd2 sl sl2 hs1 hs2 prog w A R _ ⟨hl, hb, by simpa [e] using h⟩)⟩
  | false =>
    wp_walk using wpAny_loadPart' hl, wpAny_loadPart' hb
    rw [hi1, hi2]
    refine wpAny_bind (wpAny_lt_int ?_)
    exact wpAny_pure h

theorem lt_loop0 (l b : Addr) (items items2 : Array Value) (a c : Str) (x y : Int) (t t2 u u2 : Tok) (n n2 : Nat) (dd dd2 : Option Addr) (sl sl2 : Array (Option Value)) (hs1 : items.size = 2) (hs2 : items2.size = 2)
    (ha : items[0]? = some (.str a t)) (hc : items2[0]? = some (.str c t2)) (hx : items[1]? = some (.int x u)) (hy : items2[1]? = some (.int y u2)) :
    Meets (Builtin.«list.__eq__.loop» ⟨[.ref l, .ref b, rawInt (0 : Nat), rawInt 0], []⟩)
      (fun _ R s => s.heap.get? l = some { cls := .type "list", dict := dd, data := .seq items n, slots := sl } ∧ s.heap.get? b = some { cls := .type "list", dict := dd2, data := .seq items2 n2, slots := sl2 } ∧
        R (.ok (.ret (.bool (itLt (a, x) (c, y))))) s) := by
  intro prog w A R s h
  obtain ⟨hp, g, d, tk, os⟩ := s; obtain ⟨hl, hb, h⟩ := h
  wp_walk using wpAny_loadPart' hl, wpAny_loadPart' hb
  have hi1 : items[((0 : Nat) : Int).toNat]? = some (.str a t) := ha
  have hi2 : items2[((0 : Nat) : Int).toNat]? = some (.str c t2) := hc
  rw [hi1, hi2]
  refine wpAny_bind (EqAt.str_str a t c t2 prog w _ _ ?_)
  cases hb' : (a == c) with
  | true =>
    wp_walk
    exact ⟨plainId_quiet plain_eq_loop _, codeAny_builtin entry_eq_loop (by
      rw [Around.under_plainId plain_eq_loop _]
      exact lt_loop1 l b items items2 x y u u2 n n2 dd dd2 sl sl2 hs1 hs2 hx hy prog w A R _ ⟨hl, hb, by simpa [itLt, hb'] using h⟩)⟩
  | false =>
    wp_walk using wpAny_loadPart' hl, wpAny_loadPart' hb
    rw [hi1, hi2]
    refine wpAny_bind (PyProof.Rows.lt_str ?_)
    refine wpAny_pure ?_
    simpa [itLt, hb'] using h

theorem list_lt0 (l b : Addr) (items items2 : Array Value) (a c : Str) (x y : Int) (t t2 u u2 : Tok) (n n2 : Nat) (dd dd2 : Option Addr) (sl sl2 : Array (Option Value)) (hs1 : items.size = 2) (hs2 : items2.size = 2)
    (ha : items[0]? = some (.str a t)) (hc : items2[0]? = some (.str c t2)) (hx : items[1]? = some (.int x u)) (hy : items2[1]? = some (.int y u2)) :
    Meets (Builtin.«list.__lt__» ⟨[.ref l, .ref b], []⟩)
      (fun _ R s => s.heap.get? l = some { cls := .type "list", dict := dd, data := .seq items n, slots := sl } ∧ s.heap.get? b = some { cls := .type "list", dict := dd2, data := .seq items2 n2, slots := sl2 } ∧
        R (.ok (.ret (.bool (itLt (a, x) (c, y))))) s) := by
  intro prog w A R s h
  obtain ⟨hp, g, d, tk, os⟩ := s; obtain ⟨hl, hb, h⟩ := h
  have f3 := AutoSeq1.sub_list_list
  wp_walk using wpAny_loadPart' hl, wpAny_loadPart' hb
  exact ⟨plainId_quiet plain_eq_loop _, codeAny_builtin entry_eq_loop (by
    rw [Around.under_plainId plain_eq_loop _]
    exact lt_loop0 l b items items2 a c x y t t2 u u2 n n2 dd dd2 sl sl2 hs1 hs2 ha hc hx hy prog w A R _ ⟨hl, hb, h⟩)⟩

/-- an item [str, int] at an address -/
def ItemAt (h : Heap) (a : Addr) (x : Str × Int) : Prop := ∃ t u, h.IsList a #[.str x.1 t, .int x.2 u]

section
variable {prog : Program} {w : World} {A : Around} {E : Value → Shared → Prop} {s : Shared}

theorem rc_lt_items {l b : Addr} {x y : Str × Int} {Q : Value → Shared → Prop} (hl : ItemAt s.heap l x) (hb : ItemAt s.heap b y) (hu : A.units < cLine)
    (h : Q (.bool (itLt x y)) s) : wpAny (model prog w) A (richCompare .Lt (.ref l) (.ref b)) Q E s := by
  obtain ⟨t, u, ⟨cls, dd, data, sl⟩, ho, hc, n, hd⟩ := hl
  obtain ⟨t2, u2, ⟨cls2, dd2, data2, sl2⟩, ho2, hc2, n2, hd2⟩ := hb
  simp only at hc hd hc2 hd2
  subst hc hd hc2 hd2
  exact richCompare_meets_room (op := .Lt) ⟨_, ho, rfl⟩ ⟨_, ho2, rfl⟩ F.slot_list_lt F.entry_list_lt (F.args_list_lt_2 _ _)
    (list_lt0 l b _ _ x.1 y.1 x.2 y.2 t t2 u u2 n n2 dd dd2 sl sl2 rfl rfl rfl rfl rfl rfl)
    ⟨ho, ho2, show Value.bool (itLt x y) ≠ Value.notImplemented ∧ Q (.bool (itLt x y)) s from ⟨(fun x => nomatch x), h⟩⟩ hu

theorem lt_items {l b : Addr} {x y : Str × Int} {Q : Value → Shared → Prop} (hl : ItemAt s.heap l x) (hb : ItemAt s.heap b y) (hu : A.units < cLine)
    (h : Q (.bool (itLt x y)) s) : wpAny (model prog w) A (compareOp .Lt (.ref l) (.ref b)) Q E s := rc_lt_items hl hb hu h
end
end Mine
end

section
namespace Mine

/-! ## heaps over index functions -/
def par (i : Nat) : Nat := (i - 1) / 2

def HeapFrom {α : Type} (le : α → α → Prop) (n b : Nat) (f : Nat → α) : Prop := ∀ i, 0 < i → i < n → b ≤ par i → le (f (par i)) (f i)

inductive Desc (s : Nat) : Nat → Prop where
  | refl : Desc s s
  | left {p : Nat} : Desc s p → Desc s (2 * p + 1)
  | right {p : Nat} : Desc s p → Desc s (2 * p + 2)

theorem Desc.le {s p : Nat} (h : Desc s p) : s ≤ p := by induction h <;> omega
theorem Desc.up {s p : Nat} (h : Desc s p) (hp : s < p) : Desc s (par p) := by
  cases h with
  | refl => omega
  | left h => have : par (2 * ‹Nat› + 1) = ‹Nat› := by unfold par; omega
              rw [this]; exact h
  | right h => have : par (2 * ‹Nat› + 2) = ‹Nat› := by unfold par; omega
               rw [this]; exact h
theorem Desc.zero : ∀ p : Nat, Desc 0 p := by
  intro p
  induction p using Nat.strongRecOn with
  | ind p ih =>
    rcases Nat.eq_zero_or_pos p with rfl | h
    · exact .refl
    · rcases Nat.mod_two_eq_zero_or_one p with e | e
      · have : p = 2 * (par p) + 2 := by unfold par; omega
        rw [this]; exact .right (ih _ (by unfold par; omega))
      · have : p = 2 * (par p) + 1 := by unfold par; omega
        rw [this]; exact .left (ih _ (by unfold par; omega))

def upd {α : Type} (f : Nat → α) (p : Nat) (x : α) : Nat → α := fun i => if i = p then x else f i
theorem upd_self {α : Type} (f : Nat → α) (p : Nat) (x : α) : upd f p x p = x := by simp [upd]
theorem upd_ne {α : Type} (f : Nat → α) {p i : Nat} (x : α) (h : i ≠ p) : upd f p x i = f i := by simp [upd, h]

/-- the way down: f with a hole at p -/
structure SU {α : Type} (le : α → α → Prop) (n b s p : Nat) (x : α) (f : Nat → α) : Prop where
  a1 : ∀ i, 0 < i → i < n → b ≤ par i → i ≠ p → par i ≠ p → le (f (par i)) (f i)
  gp : 0 < p → b ≤ par p → ∀ i, 0 < i → i < n → par i = p → le (f (par p)) (f i)
  cc : 0 < s → b ≤ par s → le (f (par s)) x

/-- the way up: besides, x is below the hole's children -/
structure SD {α : Type} (le : α → α → Prop) (n b s p : Nat) (x : α) (f : Nat → α) : Prop extends SU le n b s p x f where
  a2 : ∀ i, 0 < i → i < n → b ≤ p → par i = p → le x (f i)

section
variable {α : Type} {le : α → α → Prop} {n b s p : Nat} {x : α} {f : Nat → α}

theorem SD.step (tr : ∀ a c d, le a c → le c d → le a d) (S : SD le n b s p x f) (hD : Desc s p) (hp : s < p) (hbs : b ≤ s) (hx : le x (f (par p))) (hpn : p < n) :
    SD le n b s (par p) x (upd f p (f (par p))) := by
  have hpp : par p < p := by unfold par; omega
  have hDp := (hD.up hp).le
  refine ⟨⟨fun i h0 hn hb h1 h2 => ?_, fun h0 hb i hi0 hin hpar => ?_, fun h0 hb => ?_⟩, fun i h0 hn hb hpar => ?_⟩
  · have hip : i ≠ p := fun e => h2 (by rw [e])
    rw [upd_ne _ _ hip]
    by_cases hq : par i = p
    · rw [hq, upd_self]; exact S.gp (by omega) (by omega) i h0 hn hq
    · rw [upd_ne _ _ hq]; exact S.a1 i h0 hn hb hip hq
  · have h1 : par (par p) ≠ p := by unfold par at *; omega
    rw [upd_ne _ _ h1]
    have hup : le (f (par (par p))) (f (par p)) := S.a1 _ h0 (by omega) hb (by omega) h1
    by_cases hip : i = p
    · rw [hip, upd_self]; exact hup
    · rw [upd_ne _ _ hip]
      have h2 : le (f (par i)) (f i) := S.a1 i hi0 hin (by omega) hip (by omega)
      rw [hpar] at h2
      exact tr _ _ _ hup h2
  · have : par s ≠ p := by unfold par; omega
    rw [upd_ne _ _ this]; exact S.cc h0 hb
  · by_cases hip : i = p
    · rw [hip, upd_self]; exact hx
    · rw [upd_ne _ _ hip]
      have h2 : le (f (par i)) (f i) := S.a1 i h0 hn (by omega) hip (by omega)
      rw [hpar] at h2
      exact tr _ _ _ hx h2

theorem SD.done (S : SD le n b s p x f) (hs : p = s ∨ le (f (par p)) x) : HeapFrom le n b (upd f p x) := by
  intro i h0 hn hb
  have hpi : par i ≠ i := by unfold par; omega
  by_cases hip : i = p
  · subst hip
    rw [upd_self, upd_ne _ _ hpi]
    rcases hs with rfl | hs
    · exact S.cc h0 hb
    · exact hs
  · rw [upd_ne _ _ hip]
    by_cases hq : par i = p
    · rw [hq, upd_self]; exact S.a2 i h0 hn (by omega) hq
    · rw [upd_ne _ _ hq]; exact S.a1 i h0 hn hb hip hq

/-- one step of the way down: c the smaller child -/
theorem SU.step (S : SU le n b s p x f) (hD : s ≤ p) (hbs : b ≤ s) {c : Nat} (hc : par c = p) (hc0 : 0 < c) (hcn : c < n) (hmin : ∀ d, 0 < d → d < n → par d = p → le (f c) (f d)) :
    SU le n b s c x (upd f p (f c)) := by
  have hpc : p < c := by unfold par at hc; omega
  refine ⟨fun i h0 hn hb h1 h2 => ?_, fun h0 hb i hi0 hin hpar => ?_, fun h0 hb => ?_⟩
  · by_cases hip : i = p
    · subst hip
      have : par i ≠ i := by unfold par; omega
      rw [upd_self, upd_ne _ _ this]
      exact S.gp h0 hb c hc0 hcn hc
    · rw [upd_ne _ _ hip]
      by_cases hq : par i = p
      · rw [hq, upd_self]; exact hmin i h0 hn hq
      · rw [upd_ne _ _ hq]; exact S.a1 i h0 hn hb hip hq
  · have hip : i ≠ p := by unfold par at *; omega
    rw [hc, upd_self, upd_ne _ _ hip]
    have := S.a1 i hi0 hin (by rw [hpar]; omega) hip (by rw [hpar]; omega)
    rwa [hpar] at this
  · have : par s ≠ p := by unfold par; omega
    rw [upd_ne _ _ this]; exact S.cc h0 hb

theorem SU.bottom (S : SU le n b s p x f) (hp : n ≤ 2 * p + 1) : SD le n b s p x f :=
  ⟨S, fun i h0 hn _ hpar => by unfold par at hpar; omega⟩

theorem SU.congr {g : Nat → α} (S : SU le n b s p x f) (h : ∀ i, i < n → i ≠ p → g i = f i) (hs : s ≤ p) (hpn : p < n) : SU le n b s p x g := by
  refine ⟨fun i h0 hn hb h1 h2 => ?_, fun h0 hb i hi0 hin hpar => ?_, fun h0 hb => ?_⟩
  · rw [h i hn h1, h _ (by unfold par; omega) h2]; exact S.a1 i h0 hn hb h1 h2
  · rw [h i hin (by unfold par at *; omega), h (par p) (by unfold par; omega) (by unfold par; omega)]; exact S.gp h0 hb i hi0 hin hpar
  · rw [h (par s) (by unfold par; omega) (by unfold par; omega)]; exact S.cc h0 hb
theorem SD.congr {g : Nat → α} (S : SD le n b s p x f) (h : ∀ i, i < n → i ≠ p → g i = f i) (hs : s ≤ p) (hpn : p < n) : SD le n b s p x g :=
  ⟨S.toSU.congr h hs hpn, fun i h0 hn hb hpar => by rw [h i hn (by unfold par at *; omega)]; exact S.a2 i h0 hn hb hpar⟩

/-- heapify's step: s is the place -/
theorem SU.heapify (H : HeapFrom le n (s + 1) f) : SU le n s s s x f := by
  refine ⟨fun i h0 hn hb h1 h2 => H i h0 hn (by omega), fun h0 hb => ?_, fun h0 hb => ?_⟩ <;> (unfold par at hb; omega)

/-- an item of a heap made greater -/
theorem SU.greater (tr : ∀ a c d, le a c → le c d → le a d) (H : HeapFrom le n 0 f) (hs : s < n) (hx : le (f s) x) : SU le n 0 s s x f := by
  refine ⟨fun i h0 hn hb h1 h2 => H i h0 hn hb, fun h0 hb i hi0 hin hpar => ?_, fun h0 hb => ?_⟩
  · have h1 := H s h0 hs hb
    have h2 := H i hi0 hin (Nat.zero_le _)
    rw [hpar] at h2
    exact tr _ _ _ h1 h2
  · exact tr _ _ _ (H s h0 hs hb) hx

/-- an item of a heap made less -/
theorem SD.less (tr : ∀ a c d, le a c → le c d → le a d) (H : HeapFrom le n 0 f) (hp : p < n) (hx : le x (f p)) : SD le n 0 0 p x f := by
  refine ⟨⟨fun i h0 hn hb h1 h2 => H i h0 hn hb, fun h0 hb i hi0 hin hpar => ?_, fun h0 => by omega⟩, fun i h0 hn hb hpar => ?_⟩
  · have h1 := H p h0 hp hb
    have h2 := H i hi0 hin (Nat.zero_le _)
    rw [hpar] at h2
    exact tr _ _ _ h1 h2
  · have h2 := H i h0 hn (Nat.zero_le _)
    rw [hpar] at h2
    exact tr _ _ _ hx h2

theorem HeapFrom.top (tr : ∀ a c d, le a c → le c d → le a d) (rf : ∀ a, le a a) (H : HeapFrom le n 0 f) : ∀ i, i < n → le (f 0) (f i) := by
  intro i
  induction i using Nat.strongRecOn with
  | ind i ih =>
    intro hn
    rcases Nat.eq_zero_or_pos i with rfl | h
    · exact rf _
    · exact tr _ _ _ (ih (par i) (by unfold par; omega) (by unfold par; omega)) (H i h hn (Nat.zero_le _))
end
end Mine
end

section
open PySem PySem.W PyProof.Rows
namespace Mine
open PySem.Calls

/-- the end put away under a name of its own -/
theorem hide {α : Type} {M : Model} {A : Around} {x : Sem α} {E : Value → Shared → Prop} {s : Shared} {Q : α → Shared → Prop} (h : ∀ Q' : α → Shared → Prop, Q' = Q → wpAny M A x Q' E s) : wpAny M A x Q E s := h Q rfl

/-! ## the text's own defs -/
def stmtN (n : Nat) : Stmt := PySem.Challenge.pw_op0058_01.main.body.getD n (.Pass ⟨0, 0, 0, 0⟩)
def recOf : Stmt → DefRec
  | .FunctionDef name params body _ _ _ scope _ _ pos => ⟨name, params, body, scope, pos⟩
  | .Pass p => ⟨Str.ofString "", ⟨[], [], none, [], [], none, []⟩, [], { kind := .function, names := [], isGenerator := false, isCoroutine := false, more := [] }, p⟩
  | _ => ⟨Str.ofString "", ⟨[], [], none, [], [], none, []⟩, [], { kind := .function, names := [], isGenerator := false, isCoroutine := false, more := [] }, ⟨0, 0, 0, 0⟩⟩

def dHeappop : DefRec := recOf (stmtN 1)
def dHeapify : DefRec := recOf (stmtN 2)
def dSiftdown : DefRec := recOf (stmtN 3)
def dSiftup : DefRec := recOf (stmtN 4)
def dIfmt : DefRec := recOf (stmtN 6)
def dFilemode : DefRec := recOf (stmtN 27)
def dPairs : DefRec := recOf (stmtN 29)
def dTurned : DefRec := recOf (stmtN 30)
def dRow : DefRec := recOf (stmtN 31)
def dDown : DefRec := recOf (stmtN 32)
def dMended : DefRec := recOf (stmtN 33)
def dStands : DefRec := recOf (stmtN 34)
def dLaw : DefRec := recOf (stmtN 35)
def defs : List DefRec := [dHeappop, dHeapify, dSiftdown, dSiftup, dIfmt, dFilemode, dPairs, dTurned, dRow, dDown, dMended, dStands, dLaw]
def blts : List Str := [Str.ofString "len", Str.ofString "range", Str.ofString "list", Str.ofString "sum", Str.ofString "sorted", Str.ofString "reversed", Str.ofString "enumerate", Str.ofString "IndexError"]

/-- what the top leaves, as far as the calls read it -/
structure Gl (mg mb : Str → Option Value) (h : Heap) : Prop where
  g : h.Ns mainGlobals mg
  b : h.Ns builtinsNs mb
  nolimit : h.NoLimit
  fn : ∀ d ∈ defs, ∃ a o pm code doc, mg d.name = some (.ref a) ∧ h.get? a = some o ∧ o.data = .func (docDef d.name d.params d.body d.scope pm code doc) ∧ h.CodeRec code d.name
  free : ∀ x ∈ blts, mg x = none ∧ mb x = bootBuiltins x

theorem Gl.keeps {mg mb : Str → Option Value} {h h' : Heap} (G : Gl mg mb h) (k : ∀ b o, h.get? b = some o → h'.get? b = some o) : Gl mg mb h' where
  g := G.g.keeps k
  b := G.b.keeps k
  nolimit := G.nolimit.keeps k
  fn := fun d hd => let ⟨a, o, pm, code, doc, h1, h2, h3, h4⟩ := G.fn d hd; ⟨a, o, pm, code, doc, h1, k _ _ h2, h3, h4.keeps k⟩
  free := G.free

/-- h' has what h has, but for X -/
def Ext (X : Addr → Prop) (h h' : Heap) : Prop := ∀ b o, ¬ X b → h.get? b = some o → h'.get? b = some o
abbrev None : Addr → Prop := fun _ => False
abbrev One (H : Addr) : Addr → Prop := fun b => b = H

theorem Ext.refl (X : Addr → Prop) (h : Heap) : Ext X h h := fun _ _ _ e => e
theorem Ext.trans {X : Addr → Prop} {h h' h'' : Heap} (x : Ext X h h') (y : Ext X h' h'') : Ext X h h'' := fun b o hb e => y b o hb (x b o hb e)
theorem Ext.mono {X Y : Addr → Prop} {h h' : Heap} (x : Ext X h h') (s : ∀ b, X b → Y b) : Ext Y h h' := fun b o hb e => x b o (fun q => hb (s b q)) e

/-- a frame: its locals (as far as told), what it keeps -/
structure Fm (base : Heap) (X : Addr → Prop) (h₀ : Heap) (L : Addr) (h : Heap) (vars : List (Str × Value)) : Prop where
  ns : ∃ m, h.Ns L m ∧ ∀ x v, vars.lookup x = some v → m x = some v
  keep : Ext X h₀ h
  above : h₀.objs.size ≤ L
  base₀ : ∀ b o, base.get? b = some o → h₀.get? b = some o
  hX : ∀ b, X b → base.get? b = none
  hXL : ¬ X L

namespace Fm
variable {base h₀ h h' : Heap} {X : Addr → Prop} {L : Addr} {vars : List (Str × Value)}
theorem based (F : Fm base X h₀ L h vars) : ∀ b o, base.get? b = some o → h.get? b = some o :=
  fun b o e => F.keep b o (fun q => by rw [F.hX b q] at e; cases e) (F.base₀ b o e)
theorem lt (F : Fm base X h₀ L h vars) : L < h.objs.size := let ⟨_, hn, _⟩ := F.ns; hn.lt
theorem ne {b : Addr} {o : Obj} (F : Fm base X h₀ L h vars) (e : h₀.get? b = some o) : b ≠ L := Nat.ne_of_lt (Nat.lt_of_lt_of_le (Heap.lt_size e) F.above)
theorem weaken {vars' : List (Str × Value)} (F : Fm base X h₀ L h vars) (hv : ∀ x v, vars'.lookup x = some v → vars.lookup x = some v) : Fm base X h₀ L h vars' :=
  ⟨let ⟨m, hn, hm⟩ := F.ns; ⟨m, hn, fun x v e => hm x v (hv x v e)⟩, F.keep, F.above, F.base₀, F.hX, F.hXL⟩
/-- more objects, none changed -/
theorem kept (F : Fm base X h₀ L h vars) (k : Ext None h h') : Fm base X h₀ L h' vars :=
  ⟨let ⟨m, hn, hm⟩ := F.ns; ⟨m, hn.keeps fun b o => k b o id, hm⟩, fun b o hb e => k b o id (F.keep b o hb e), F.above, F.base₀, F.hX, F.hXL⟩
/-- a call that changes what is in X -/
theorem ext (F : Fm base X h₀ L h vars) (k : Ext X h h') : Fm base X h₀ L h' vars :=
  ⟨let ⟨m, hn, hm⟩ := F.ns; ⟨m, hn.at' fun o e => k L o F.hXL e, hm⟩, fun b o hb e => k b o hb (F.keep b o hb e), F.above, F.base₀, F.hX, F.hXL⟩
end Fm

/-- each of vars' stands in vars -/
def Sub : List (Str × Value) → List (Str × Value) → Prop
  | [], _ => True
  | p :: r, vars => vars.lookup p.1 = some p.2 ∧ Sub r vars
theorem Sub.lookup {vars : List (Str × Value)} : ∀ {vars' : List (Str × Value)}, Sub vars' vars → ∀ x v, vars'.lookup x = some v → vars.lookup x = some v
  | [], _, _, _, e => by cases e
  | (y, u) :: r, h, x, v, e => by
    rw [List.lookup_cons] at e
    cases hy : x == y with
    | true => rw [hy] at e; cases e; rw [eq_of_beq hy]; exact h.1
    | false => rw [hy] at e; exact Sub.lookup h.2 x v e
theorem Fm.sub {base h₀ h : Heap} {X : Addr → Prop} {L : Addr} {vars vars' : List (Str × Value)} (F : Fm base X h₀ L h vars) (hv : Sub vars' vars) : Fm base X h₀ L h vars' := F.weaken hv.lookup

theorem lookup_filter {x y : Str} {vars : List (Str × Value)} {v : Value} (hne : y ≠ x) :
    (vars.filter fun p => decide (p.1 ≠ x)).lookup y = some v → vars.lookup y = some v := by
  induction vars with
  | nil => exact id
  | cons p r ih =>
    obtain ⟨a, b⟩ := p
    intro h
    by_cases ha : a = x
    · have : decide ((a, b).1 ≠ x) = false := by simp [ha]
      rw [List.filter_cons, this] at h
      simp only [Bool.false_eq_true, if_false] at h
      have hy : (y == a) = false := by simpa [ha] using hne
      rw [List.lookup_cons, hy]; exact ih h
    · have : decide ((a, b).1 ≠ x) = true := by simp [ha]
      rw [List.filter_cons, this] at h
      simp only [if_true] at h
      rw [List.lookup_cons] at h ⊢
      cases hy : y == a with
      | true => rw [hy] at h; exact h
      | false => rw [hy] at h; exact ih h

/-- the locals with x set -/
def setV (vars : List (Str × Value)) (x : Str) (v : Value) : List (Str × Value) := (x, v) :: vars.filter fun p => decide (p.1 ≠ x)

/-- the state: s with another heap, other tokens -/
def st (s : Shared) (h : Heap) (tk : Nat) : Shared := { s with heap := h, toks := tk }

theorem Fm.store {base h₀ h h' : Heap} {X : Addr → Prop} {L : Addr} {vars : List (Str × Value)} {m : Str → Option Value} {x : Str} {v : Value} (F : Fm base X h₀ L h vars) (hm : ∀ y u, vars.lookup y = some u → m y = some u)
    (hn : h'.Ns L (fun y => if y = x then some v else m y)) (hs : Heap.SameBut L h h') : Fm base X h₀ L h' (setV vars x v) := by
  refine ⟨⟨_, hn, fun y u e => ?_⟩, fun b o hb e => hs.extBut b o (F.ne e) (F.keep b o hb e), F.above, F.base₀, F.hX, F.hXL⟩
  unfold setV at e
  rw [List.lookup_cons] at e
  by_cases hy : y = x
  · subst hy; simp at e; subst e; simp
  · have : (y == x) = false := by simpa using hy
    rw [this] at e
    show (if y = x then some v else m y) = some u
    rw [if_neg hy]; exact hm y u (lookup_filter hy e)

section
variable {prog : Program} {w : World} {A : Around} {E : Value → Shared → Prop} {s : Shared} {h : Heap} {tk : Nat} {name : Str} {scope : Scope} {L a : Addr} {cd : Value} {base h₀ : Heap} {X : Addr → Prop} {vars : List (Str × Value)} {mg mb : Str → Option Value}

theorem ldF {x : Str} {pos : Pos} {v : Value} {Q : Value → Shared → Prop} (F : Fm base X h₀ L h vars) (hv : vars.lookup x = some v) (hq : Q v (st s h tk))
    (hk : scope.kind = .function := by rfl) (hl : (envOf name scope L a cd).kindOf x = some .local := by rfl)
    (hd : (x == ("__debug__" : Str)) = false := by decide) :
    wpAny (model prog w) A (eval (.Name x pos) (envOf name scope L a cd)) Q E (st s h tk) :=
  let ⟨_, hn, hm⟩ := F.ns
  wpAny_Name (wpAny_loadName_local (s := st s h tk) hk hl hn (hm x v hv) hq) hd

theorem stF {x : Str} {v : Value} {Q : Unit → Shared → Prop} (F : Fm base X h₀ L h vars)
    (hq : ∀ h' tk', Fm base X h₀ L h' (setV vars x v) → Heap.SameBut L h h' → Q () (st s h' tk'))
    (hk : scope.kind = .function := by rfl) (hl : (envOf name scope L a cd).kindOf x = some .local := by rfl) :
    wpAny (model prog w) A (storeName (envOf name scope L a cd) x v) Q E (st s h tk) := by
  obtain ⟨m, hn, hm⟩ := F.ns
  exact wpAny_storeName_local (s := st s h tk) hl hn (fun h' hn' hs => hq h' _ (F.store hm hn' hs) hs)
    (by show (scope.kind == .class || (scope.kind == .module && L != mainGlobals)) = false; rw [hk]; rfl)

theorem glF {d : DefRec} {pos : Pos} {Q : Value → Shared → Prop} (F : Fm base X h₀ L h vars) (G : Gl mg mb base) (hd : d ∈ defs)
    (hq : ∀ a o pm code doc, mg d.name = some (.ref a) → base.get? a = some o → o.data = .func (docDef d.name d.params d.body d.scope pm code doc) → base.CodeRec code d.name → Q (.ref a) (st s h tk))
    (hk : scope.kind = .function := by rfl) (hx : (envOf name scope L a cd).kindOf d.name = some .globalImplicit := by rfl)
    (hdb : (d.name == ("__debug__" : Str)) = false := by decide) : wpAny (model prog w) A (eval (.Name d.name pos) (envOf name scope L a cd)) Q E (st s h tk) :=
  let ⟨a', o, pm, code, doc, h1, h2, h3, h4⟩ := G.fn d hd
  Name_function_global hk hx (loadGlobal_global (s := st s h tk) (env := envOf name scope L a cd) (G.g.keeps F.based) h1 (hq a' o pm code doc h1 h2 h3 h4)) hdb

theorem blF {x : Str} {v : Value} {pos : Pos} {Q : Value → Shared → Prop} (F : Fm base X h₀ L h vars) (G : Gl mg mb base) (hx : x ∈ blts) (hv : bootBuiltins x = some v)
    (hq : Q v (st s h tk))
    (hk : scope.kind = .function := by rfl) (hx : (envOf name scope L a cd).kindOf x = some .globalImplicit := by rfl)
    (hdb : (x == ("__debug__" : Str)) = false := by decide) : wpAny (model prog w) A (eval (.Name x pos) (envOf name scope L a cd)) Q E (st s h tk) :=
  Name_function_global hk hx (loadGlobal_builtin (s := st s h tk) (env := envOf name scope L a cd) (G.g.keeps F.based) (G.free x ‹_›).1 (G.b.keeps F.based) ((G.free x ‹_›).2.trans hv) hq) hdb

/-- a plain call of one of the text's defs -/
theorem callF {d : DefRec} {f : Addr} {o : Obj} {pm cd doc : Value} {args : List Value} {R : Result → Shared → Prop} {binds : List (Str × Value)} (G : Gl mg mb base)
    (K : ∀ b o, base.get? b = some o → h.get? b = some o) (hX : ∀ b, X b → base.get? b = none) (hXlt : ∀ b, X b → b < h.objs.size)
    (hroom : A.depth < recursionLimit) (ho : base.get? f = some o) (hdata : o.data = .func (docDef d.name d.params d.body d.scope pm cd doc)) (hcd : base.CodeRec cd d.name)
    (hbind : bindArgs (docDef d.name d.params d.body d.scope pm cd doc) ⟨args, []⟩ = pure binds)
    (hloc : ∀ x ∈ binds, d.scope.names.lookup x.1 = some .local)
    (hq : ∀ L h₁ tk', Fm base X h L h₁ binds.reverse → Ext None h h₁ →
      wpAny (model prog w) (A.deeper (envOf d.name d.scope L f cd)) (execs d.body (envOf d.name d.scope L f cd))
        (fun f s' => R (.ok (.ret (match f with | .ret v => v | _ => .none))) s') (fun _ _ => False)
        (st s h₁ tk'))
    (hco : d.scope.isCoroutine = false := by rfl) (hgen : d.scope.isGenerator = false := by rfl) (hk : d.scope.kind = .function := by rfl)
    (hcell : ∀ x ∈ d.scope.names, x.2 ≠ .cell := by decide) :
    codeAny (model prog w) A (.call (.ref f) ⟨args, []⟩) R (st s h tk) :=
  call_plain_ret (s := st s h tk) hroom (K _ _ ho) hdata (G.nolimit.keeps K) (hcd.keeps K) hbind hloc
    (fun h₁ F => hq h.objs.size h₁ _ ⟨⟨_, F.ns, fun _ _ e => e⟩, fun b o _ e => F.keep b o e, F.above, K, hX, fun q => Nat.lt_irrefl _ (hXlt _ q)⟩ fun b o _ e => F.keep b o e) hco hgen hk hcell

section
variable {env : Env} {Q : Value → Shared → Prop} {i a b : Int} {t u : Tok} {x y : Str} {k : Nat} {pos : Pos}
theorem cI (hq : ∀ t tk', Q (.int i t) (st s h tk')) : wpAny (model prog w) A (eval (.Constant (.int i) k pos) env) Q E (st s h tk) := wpAny_Constant_int (hq _ _)
theorem cS (hq : ∀ t tk', Q (.str x t) (st s h tk')) : wpAny (model prog w) A (eval (.Constant (.str x) k pos) env) Q E (st s h tk) := wpAny_Constant_str (hq _ _)
theorem addI (hq : ∀ t tk', Q (.int (a + b) t) (st s h tk')) : wpAny (model prog w) A (binaryOp .Add (.int a t) (.int b u)) Q E (st s h tk) := add_int (hq _ _)
theorem subI (hq : ∀ t tk', Q (.int (a - b) t) (st s h tk')) : wpAny (model prog w) A (binaryOp .Sub (.int a t) (.int b u)) Q E (st s h tk) := sub_int (hq _ _)
theorem mulI (hm : IntMulOk a b) (hq : ∀ t tk', Q (.int (a * b) t) (st s h tk')) : wpAny (model prog w) A (binaryOp .Mult (.int a t) (.int b u)) Q E (st s h tk) := mul_int (hq _ _) hm
theorem rsh1I (h0 : 0 ≤ a) (hq : ∀ t tk', Q (.int (a / 2) t) (st s h tk')) : wpAny (model prog w) A (binaryOp .RShift (.int a t) (.int 1 u)) Q E (st s h tk) := wpAny_rshift1_int h0 (hq _ _)
theorem modI (hb : b ≠ 0) (hq : ∀ t tk', Q (.int (a.fmod b) t) (st s h tk')) : wpAny (model prog w) A (binaryOp .Mod (.int a t) (.int b u)) Q E (st s h tk) := mod_int hb (hq _ _)
theorem andI (hq : ∀ t tk', Q (.int (Builtin.bitAnd a b) t) (st s h tk')) : wpAny (model prog w) A (binaryOp .BitAnd (.int a t) (.int b u)) Q E (st s h tk) := and_int (hq _ _)
theorem lenI {l : Addr} {items : Array Value} (hl : h.IsList l items) (hfit : (items.size : Int) < 2 ^ 63) (hq : ∀ t tk', Q (.int items.size t) (st s h tk')) :
    wpAny (model prog w) A (call (.builtin "len") [.ref l]) Q E (st s h tk) := call_len_list (s := st s h tk) hl hfit (hq _ _)
end
theorem setP {l : Addr} {items : Array Value} {k : Int} {t : Tok} {v : Value} {Q : Unit → Shared → Prop} (hl : h.PlainList l items)
    (h0 : 0 ≤ k) (hfit : k < 2 ^ 63) (hn : k < items.size)
    (hQ : ∀ h', h'.PlainList l (items.setIfInBounds k.toNat v) → Heap.SameBut l h h' → Q () (st s h' tk)) :
    wpAny (model prog w) A (setItem (.ref l) (.int k t) v) Q E (st s h tk) := by
  obtain ⟨ne, ho⟩ := id hl
  have hT : (st s h tk).TypeIs (.ref l) "list" := ⟨_, ho, rfl⟩
  unfold setItem
  try with_reducible refine wpAny_holding ?_
  first | refine wpAny_bind (wpAny_pure ?_) | skip
  refine wpAny_bind (wpAny_sequenceKey hT (by decide) ?_)
  refine wpAny_bind (wpAny_callSpecial?_slot (name := Str.ofString "__setitem__") hT slot_list_setitem
    (wpAny_call_entry slot_list_setitem hT entry_list_setitem ?_ (args_list_setitem _ _ _)))
  show wpAny _ _ (Builtin.List.listSubscript? (.int k t) >>= _) _ _ _
  refine wpAny_bind (wpAny_listSubscript_int (fitsIndex_of h0 hfit) ?_)
  clear hfit
  obtain ⟨j, rfl⟩ := Int.eq_ofNat_of_zero_le h0
  have hj : j < items.size := by omega
  have hx' : items[j]? = some items[j] := Array.getElem?_eq_getElem hj
  show wpAny _ _ ((seqItemAt l j >>= fun r => pure (r.map (j, ·))) >>= _) _ _ _
  refine wpAny_bind (wpAny_bind (wpAny_seqItemAt (s := st s h tk) ho rfl (wpAny_pure ?_)))
  rw [hx']
  show wpAny _ _ (setSeqItemAt l j v >>= _) _ _ _
  have hfin : (h.update l (Obj.mapSeq (·.setIfInBounds j v))).PlainList l (items.setIfInBounds j v) := ⟨ne, by
    rw [Heap.get?_update_self (f := Obj.mapSeq (·.setIfInBounds j v)) (e := ho) (hf := rfl)]
    simp [Obj.mapSeq]⟩
  refine wpAny_bind (wpAny_setSeqItemAt (s := st s h tk) ho rfl ?_)
  first
    | exact wpAny_bind (wpAny_pure (wpAny_pure ⟨.none, rfl, wpAny_pure (hQ _ hfin (Heap.SameBut.update ..))⟩))
    | exact wpAny_pure ⟨.none, rfl, wpAny_pure (hQ _ hfin (Heap.SameBut.update ..))⟩
end
end Mine
end

section
open PySem PySem.W PyProof.Rows
namespace Mine
open PySem.Calls

abbrev kle (key : Addr → Str × Int) (a b : Addr) : Prop := itLt (key b) (key a) = false
def fAt (xs : Array Addr) : Nat → Addr := fun i => xs.getD i 0

theorem fAt_get {xs : Array Addr} {i : Nat} (h : i < xs.size) : xs[i]? = some (fAt xs i) := by simp [fAt, h]
theorem refs_get {xs : Array Addr} {i : Nat} (h : i < xs.size) : (xs.map Value.ref)[i]? = some (.ref (fAt xs i)) := by simp [fAt, h]
theorem fAt_mem {xs : Array Addr} {i : Nat} (h : i < xs.size) : fAt xs i ∈ xs := by simp [fAt, h]
theorem fAt_set {xs : Array Addr} {p : Nat} {v : Addr} (h : p < xs.size) : fAt (xs.setIfInBounds p v) = upd (fAt xs) p v := by
  funext i
  by_cases hi : i = p
  · subst hi; simp [fAt, upd, Array.getD_eq_getD_getElem?, Array.getElem?_setIfInBounds, h]
  · simp [fAt, upd, Array.getD_eq_getD_getElem?, Array.getElem?_setIfInBounds, hi, Ne.symm hi]
theorem map_set (xs : Array Addr) (p : Nat) (v : Addr) : (xs.map Value.ref).setIfInBounds p (.ref v) = (xs.setIfInBounds p v).map Value.ref := by
  simp

theorem set_self {xs : Array Addr} {p : Nat} (hp : p < xs.size) : xs.setIfInBounds p (fAt xs p) = xs := by
  apply Array.ext_getElem?
  intro k
  rw [Array.getElem?_setIfInBounds]
  by_cases h : p = k
  · subst h; simp [fAt, hp]
  · simp [h]

/-- the hole moves: the same items -/
theorem perm_hole {ys : Array Addr} {p q : Nat} {x : Addr} (hp : p < ys.size) (hq : q < ys.size) (hne : q ≠ p) :
    ((ys.setIfInBounds p (fAt ys q)).setIfInBounds q x).Perm (ys.setIfInBounds p x) := by
  have e : (ys.setIfInBounds p (fAt ys q)).setIfInBounds q x = (ys.setIfInBounds p x).swapIfInBounds p q := by
    apply Array.ext_getElem?
    intro k
    rw [getElem?_swapIB (by simpa using hp) (by simpa using hq)]
    simp only [Array.getElem?_setIfInBounds, Array.size_setIfInBounds]
    have := fAt_get hq
    by_cases h1 : q = k
    · subst h1; simp [hq, hp, hne, Ne.symm hne]
    · by_cases h2 : p = k
      · subst h2; simp [hp, h1, hne, this, Ne.symm hne]
      · simp [h1, h2, Ne.symm h1, Ne.symm h2]
  rw [e]; exact swapIB_perm _ _ _

/-- a list of items on the heap -/
structure HpAt (h : Heap) (H : Addr) (xs : Array Addr) (key : Addr → Str × Int) : Prop where
  list : h.PlainList H (xs.map Value.ref)
  items : ∀ a ∈ xs, ItemAt h a (key a)
  ne : ∀ a ∈ xs, a ≠ H

theorem ItemAt.ext {X : Addr → Prop} {h h' : Heap} {a : Addr} {x : Str × Int} (i : ItemAt h a x) (k : Ext X h h') (hx : ¬ X a) : ItemAt h' a x :=
  let ⟨t, u, o, ho, r⟩ := i; ⟨t, u, o, k _ _ hx ho, r⟩
theorem IsList.ext {X : Addr → Prop} {h h' : Heap} {a : Addr} {x : Array Value} (i : h.IsList a x) (k : Ext X h h') (hx : ¬ X a) : h'.IsList a x :=
  let ⟨o, ho, r⟩ := i; ⟨o, k _ _ hx ho, r⟩
theorem sbExt {L : Addr} {h h' : Heap} (k : Heap.SameBut L h h') : Ext (One L) h h' := fun b o hb e => (k.2 b hb).trans e

theorem PlainList.ext {X : Addr → Prop} {h h' : Heap} {a : Addr} {x : Array Value} (i : h.PlainList a x) (k : Ext X h h') (hx : ¬ X a) : h'.PlainList a x :=
  let ⟨n, ho⟩ := i; ⟨n, k _ _ hx ho⟩
theorem SameBut.list {L a : Addr} {h h' : Heap} {x : Array Value} (k : Heap.SameBut L h h') (i : h.PlainList a x) (hne : a ≠ L) : h'.PlainList a x := i.extBut k.extBut hne

section
variable {prog : Program} {w : World} {A : Around} {E : Value → Shared → Prop} {s : Shared}

theorem sub_list {env : Env} {value slice : Expr} {pos : Pos} {Q : Value → Shared → Prop}
    (h : wpAny (model prog w) A (eval value env) (fun o s₁ => wpAny (model prog w) A (eval slice env) (fun i s₂ =>
      ∃ l items k t x, o = .ref l ∧ i = .int k t ∧ s₂.heap.IsList l items ∧ 0 ≤ k ∧ k < 2 ^ 63 ∧ items[k.toNat]? = some x ∧ Q x s₂) E s₁) E s)
    (hs : ∀ l k t, subscripted slice false (.ref l) (.int k t) = operate [.ref l, .int k t] (getItem (.ref l) (.int k t)) := by intro _ _ _; with_unfolding_all rfl) :
    wpAny (model prog w) A (eval (.Subscript value slice pos) env) Q E s := by
  refine Subscript_ (wpAny_mono h (fun o s₁ h₁ => wpAny_mono h₁ (fun i s₂ h₂ => ?_) fun _ _ x => x) fun _ _ x => x)
  obtain ⟨l, items, k, t, x, rfl, rfl, hl, h0, hfit, hx, hq⟩ := h₂
  exact tail_any hl.typeIs slot_list_getitem.lookup (wpAny_getItem_list hl h0 hfit hx hq) (hs l k t)

theorem ltItems {h : Heap} {tk : Nat} {l b : Addr} {x y : Str × Int} {Q : Value → Shared → Prop} (hl : ItemAt h l x) (hb : ItemAt h b y) (hu : A.units < cLine)
    (hq : Q (.bool (itLt x y)) (st s h tk)) : wpAny (model prog w) A (compareOp .Lt (.ref l) (.ref b)) Q E (st s h tk) := lt_items (s := st s h tk) hl hb hu hq
end

section
variable {base h₀ h h' : Heap} {L H : Addr} {vars : List (Str × Value)}
/-- an item stored in the list -/
theorem Fm.put (F : Fm base (One H) h₀ L h vars) (hs : Heap.SameBut H h h') : Fm base (One H) h₀ L h' vars := F.ext (sbExt hs)
end

section
variable {prog : Program} {w : World} {A : Around} {s : Shared} {h : Heap} {tk : Nat} {base : Heap} {mg mb : Str → Option Value} {key : Addr → Str × Int} {H : Addr} {xs : Array Addr}

abbrev SdV (H : Addr) (xs : Array Addr) (p : Nat) (sp : Int) (p' : Nat) (t1 t : Tok) : List (Str × Value) :=
  [(Str.ofString "heap", .ref H), (Str.ofString "startpos", .int sp t1), (Str.ofString "pos", .int p' t), (Str.ofString "newitem", .ref (fAt xs p))]
abbrev SdI (s : Shared) (base h : Heap) (L H : Addr) (key : Addr → Str × Int) (xs : Array Addr) (b sp p : Nat) (t1 : Tok) (p' : Nat) (s' : Shared) : Prop :=
  ∃ h' tk' ys t, s' = st s h' tk' ∧ Fm base (One H) h L h' (SdV H xs p sp p' t1 t) ∧
    h'.PlainList H (ys.map Value.ref) ∧ ys.size = xs.size ∧ p' < xs.size ∧ Desc sp p' ∧ SD (kle key) xs.size b sp p' (fAt xs p) (fAt ys) ∧ (ys.setIfInBounds p' (fAt xs p)).Perm xs

set_option maxHeartbeats 4000000 in
theorem siftdown_call {R : Result → Shared → Prop} {f : Addr} {o : Obj} {pm cd doc : Value} {b sp p : Nat} {t1 t2 : Tok} (G : Gl mg mb base)
    (K : ∀ b o, base.get? b = some o → h.get? b = some o) (hH0 : base.get? H = none) (hp : HpAt h H xs key) (hn : xs.size ≤ 2 ^ 20) (hpn : p < xs.size)
    (hD : Desc sp p) (hbs : b ≤ sp) (S : SD (kle key) xs.size b sp p (fAt xs p) (fAt xs)) (tr : ∀ a c d, kle key a c → kle key c d → kle key a d) (tot : ∀ a c, ¬ kle key a c → kle key c a)
    (ho : base.get? f = some o) (hdata : o.data = .func (docDef dSiftdown.name dSiftdown.params dSiftdown.body dSiftdown.scope pm cd doc)) (hcd : base.CodeRec cd dSiftdown.name)
    (hroom : A.depth < recursionLimit) (hu : A.units + 20 < cLine)
    (hq : ∀ h' tk' ys, HpAt h' H ys key → ys.Perm xs → HeapFrom (kle key) ys.size b (fAt ys) → Ext (One H) h h' → R (.ok (.ret .none)) (st s h' tk')) :
    codeAny (model prog w) A (.call (.ref f) ⟨[.ref H, .int sp t1, .int p t2], []⟩) R (st s h tk) := by
  have hHlt : H < h.objs.size := by obtain ⟨_, e⟩ := hp.list; exact Heap.lt_size e
  refine callF (d := dSiftdown) (X := One H) (binds := [(Str.ofString "heap", .ref H), (Str.ofString "startpos", .int sp t1), (Str.ofString "pos", .int p t2)]) G K (by rintro b rfl; exact hH0) (by rintro b rfl; exact hHlt) hroom ho hdata hcd rfl (locs rfl) ?_
  intro L h₁ tk₁ F hE
  have hHL : H ≠ L := Nat.ne_of_lt (Nat.lt_of_lt_of_le hHlt F.above)
  have hu' : (A.deeper (envOf dSiftdown.name dSiftdown.scope L f cd)).units < cLine := by rw [Around.deeper_units]; omega
  have lst₁ : h₁.PlainList H (xs.map Value.ref) := PlainList.ext hp.list hE id
  refine wpAny_execs_cons (wpAny_Assign_Name (sub_list (ldF F rfl (ldF F rfl ⟨H, _, p, t2, .ref (fAt xs p), rfl, rfl, lst₁.isList, by omega, by omega, refs_get hpn, ?_⟩))))
  refine stF F fun h₂ tk₂ F₂ hs₂ => ?_
  have lst₂ := SameBut.list hs₂ lst₁ hHL
  have items : ∀ {hh : Heap} {vars : List (Str × Value)}, Fm base (One H) h L hh vars → ∀ a, a ∈ xs → ItemAt hh a (key a) := fun F' a ha => (hp.items a ha).ext F'.keep (hp.ne a ha)
  have fin : ∀ (hh : Heap) (tk' : Nat) (ys : Array Addr) (p' : Nat) (t : Tok),
      Fm base (One H) h L hh [(Str.ofString "heap", .ref H), (Str.ofString "startpos", .int sp t1), (Str.ofString "pos", .int p' t), (Str.ofString "newitem", .ref (fAt xs p))] →
      hh.PlainList H (ys.map Value.ref) → ys.size = xs.size → p' < xs.size → SD (kle key) xs.size b sp p' (fAt xs p) (fAt ys) → (ys.setIfInBounds p' (fAt xs p)).Perm xs →
      (p' = sp ∨ kle key (fAt ys (par p')) (fAt xs p)) →
      wpAny (model prog w) (A.deeper (envOf dSiftdown.name dSiftdown.scope L f cd)) (execs (dSiftdown.body.drop 2) (envOf dSiftdown.name dSiftdown.scope L f cd))
        (fun f s' => R (.ok (.ret (match f with | .ret v => v | _ => .none))) s') (fun _ _ => False) (st s hh tk') := by
    intro hh tk' ys p' t F' lst hsz hpn' S' hperm hend
    refine wpAny_execs_cons (wpAny_Assign_Subscript (ldF F' rfl (ldF F' rfl (ldF F' rfl (setP lst (by omega) (by omega) (by simp only [Array.size_map]; omega) fun h' hl hs => ?_)))))
    refine wpAny_execs_nil ?_
    have hpy : p' < ys.size := by omega
    have e : ((p' : Int)).toNat = p' := by omega
    rw [e, map_set] at hl
    have F'' := F'.put hs
    refine hq h' tk' (ys.setIfInBounds p' (fAt xs p)) ⟨hl, fun a ha => items F'' a (hperm.mem_iff.mp ha), fun a ha => hp.ne a (hperm.mem_iff.mp ha)⟩ hperm ?_ F''.keep
    rw [fAt_set hpy, Array.size_setIfInBounds, hsz]
    exact S'.done hend
  refine wpAny_execs_cons (wpAny_While ?_)
  refine codeAny_whileLoop (SdI s base h L H key xs b sp p t1) ?turn p
    ⟨h₂, _, xs, t2, rfl, F₂.sub ⟨rfl, rfl, rfl, rfl, trivial⟩, lst₂, rfl, hpn, hD, S, by rw [set_self hpn]⟩
  rintro p' s' ⟨hh, tk', ys, t, rfl, F', lst, hsz, hpn', hD', S', hperm⟩
  refine wpAny_isTrue_Compare1 (ldF F' rfl (ldF F' rfl (gt_int (wpAny_truthy_bool (split_dec (fun hlt => ?_) fun hge => ?_)))))
  · have hp0 : sp < p' := by omega
    refine hide fun Q₁ e₁ => ?_
    have nx : ∀ s₃, (∃ m, m < p' ∧ SdI s base h L H key xs b sp p t1 m s₃) → Q₁ .cont s₃ := by subst e₁; exact fun _ z => z
    have bk : ∀ s₃, wpAny (model prog w) (A.deeper (envOf dSiftdown.name dSiftdown.scope L f cd)) (execs (dSiftdown.body.drop 2) (envOf dSiftdown.name dSiftdown.scope L f cd))
        (fun f s' => R (.ok (.ret (match f with | .ret v => v | _ => .none))) s') (fun _ _ => False) s₃ → Q₁ .brk s₃ := by subst e₁; exact fun _ z => z
    clear e₁
    refine wpAny_execs_cons (wpAny_Assign_Name (wpAny_BinOp (wpAny_BinOp (ldF F' rfl (cI fun _ _ => subI fun _ _ => cI fun _ _ => rsh1I (by omega) fun _ _ => ?_)))))
    have e : ((p' : Int) - 1) / 2 = (par p' : Nat) := by unfold par; omega
    rw [e]
    refine stF F' fun h₃ _ F₃ hs₃ => ?_
    have lst₃ := SameBut.list hs₃ lst hHL
    have hpp : par p' < xs.size := by unfold par; omega
    refine wpAny_execs_cons (wpAny_Assign_Name (sub_list (ldF F₃ rfl (ldF F₃ rfl ⟨H, _, (par p' : Nat), _, .ref (fAt ys (par p')), rfl, rfl, lst₃.isList, by omega, by omega, refs_get (by omega), ?_⟩))))
    refine stF F₃ fun h₄ _ F₄ hs₄ => ?_
    have lst₄ := SameBut.list hs₄ lst₃ hHL
    have hpar_ne : par p' ≠ p' := by unfold par; omega
    have mem : fAt ys (par p') ∈ xs := hperm.mem_iff.mp (by
      have := fAt_mem (xs := ys.setIfInBounds p' (fAt xs p)) (i := par p') (by rw [Array.size_setIfInBounds]; omega)
      rwa [fAt_set (by omega), upd_ne _ _ hpar_ne] at this)
    refine wpAny_execs_cons (wpAny_If (wpAny_isTrue_Compare1 (ldF F₄ rfl (ldF F₄ rfl (ltItems (items F₄ _ (fAt_mem hpn)) (items F₄ _ mem) hu' (wpAny_truthy_bool (split_bool (fun hlt' => ?_) fun hge' => ?_)))))))
    · refine wpAny_execs_cons (wpAny_Assign_Subscript (ldF F₄ rfl (ldF F₄ rfl (ldF F₄ rfl (setP lst₄ (by omega) (by omega) (by simp only [Array.size_map]; omega) fun h₅ lst₅ hs₅ => ?_)))))
      have e5 : ((p' : Int)).toNat = p' := by omega
      rw [e5, map_set] at lst₅
      have F₅ := F₄.put hs₅
      refine wpAny_execs_cons (wpAny_Assign_Name (ldF F₅ rfl (stF F₅ fun h₆ _ F₆ hs₆ => ?_)))
      refine wpAny_execs_cons (wpAny_Continue (nx _ ⟨par p', by unfold par; omega, h₆, _, ys.setIfInBounds p' (fAt ys (par p')), _, rfl, F₆.sub ⟨rfl, rfl, rfl, rfl, trivial⟩, SameBut.list hs₆ lst₅ hHL, by rw [Array.size_setIfInBounds, hsz], hpp, hD'.up hp0, ?_, ?_⟩))
      · rw [fAt_set (by omega)]
        refine S'.step tr hD' hp0 hbs (tot _ _ fun q => ?_) hpn'
        have q' : itLt (key (fAt xs p)) (key (fAt ys (par p'))) = false := q
        rw [hlt'] at q'; cases q'
      · exact (perm_hole (by omega) (by omega) hpar_ne).trans hperm
    · refine wpAny_execs_nil (wpAny_execs_cons (wpAny_Break ?_))
      exact bk _ <| fin h₄ _ ys p' t (F₄.sub ⟨rfl, rfl, rfl, rfl, trivial⟩) lst₄ hsz hpn' S' hperm (.inr hge')
  · exact wpAny_execs_nil (fin hh _ ys p' t F' lst hsz hpn' S' hperm (.inl (by have := hD'.le; omega)))
end
end Mine
end

section
open PySem PySem.W PyProof.Rows
namespace Mine
open PySem.Calls

/-- a loop's body -/
def bodyOf : Stmt → List Stmt
  | .While _ b _ _ => b
  | .For _ _ b _ _ => b
  | .If _ b _ _ => b
  | .Try b _ _ _ _ => b
  | _ => []
def nthS (l : List Stmt) (n : Nat) : Stmt := l.getD n (.Pass ⟨0, 0, 0, 0⟩)

section
variable {prog : Program} {w : World} {A : Around} {s : Shared} {h : Heap} {tk : Nat} {base : Heap} {mg mb : Str → Option Value} {key : Addr → Str × Int} {H : Addr} {xs : Array Addr}

abbrev SuV (H : Addr) (xs : Array Addr) (p p' c : Nat) (te t2 t tc : Tok) : List (Str × Value) :=
  [(Str.ofString "heap", .ref H), (Str.ofString "endpos", .int xs.size te), (Str.ofString "startpos", .int p t2), (Str.ofString "pos", .int (p' : Nat) t), (Str.ofString "newitem", .ref (fAt xs p)), (Str.ofString "childpos", .int (c : Nat) tc)]
abbrev SuI (s : Shared) (base h : Heap) (L H : Addr) (key : Addr → Str × Int) (xs : Array Addr) (b p : Nat) (te t2 : Tok) (n : Nat) (s' : Shared) : Prop :=
  ∃ h' tk' ys p' t tc', s' = st s h' tk' ∧ Fm base (One H) h L h' (SuV H xs p p' (2 * p' + 1) te t2 t tc') ∧
    h'.PlainList H (ys.map Value.ref) ∧ ys.size = xs.size ∧ p' < xs.size ∧ Desc p p' ∧ SU (kle key) xs.size b p p' (fAt xs p) (fAt ys) ∧ (ys.setIfInBounds p' (fAt xs p)).Perm xs ∧ n = xs.size - p'

set_option maxHeartbeats 4000000 in
theorem siftup_call {R : Result → Shared → Prop} {f : Addr} {o : Obj} {pm cd doc : Value} {b p : Nat} {t2 : Tok} (G : Gl mg mb base)
    (K : ∀ b o, base.get? b = some o → h.get? b = some o) (hH0 : base.get? H = none) (hp : HpAt h H xs key) (hn : xs.size ≤ 2 ^ 20) (hpn : p < xs.size)
    (hbs : b ≤ p) (S : SU (kle key) xs.size b p p (fAt xs p) (fAt xs)) (tr : ∀ a c d, kle key a c → kle key c d → kle key a d) (tot : ∀ a c, ¬ kle key a c → kle key c a)
    (ho : base.get? f = some o) (hdata : o.data = .func (docDef dSiftup.name dSiftup.params dSiftup.body dSiftup.scope pm cd doc)) (hcd : base.CodeRec cd dSiftup.name)
    (hroom : A.depth + 1 < recursionLimit) (hu : A.units + 40 < cLine)
    (hq : ∀ h' tk' ys, HpAt h' H ys key → ys.Perm xs → HeapFrom (kle key) ys.size b (fAt ys) → Ext (One H) h h' → R (.ok (.ret .none)) (st s h' tk')) :
    codeAny (model prog w) A (.call (.ref f) ⟨[.ref H, .int p t2], []⟩) R (st s h tk) := by
  have hHlt : H < h.objs.size := by obtain ⟨_, e⟩ := hp.list; exact Heap.lt_size e
  refine callF (d := dSiftup) (X := One H) (binds := [(Str.ofString "heap", .ref H), (Str.ofString "pos", .int p t2)]) G K (by rintro b rfl; exact hH0) (by rintro b rfl; exact hHlt) (by omega) ho hdata hcd rfl (locs rfl) ?_
  intro L h₁ tk₁ F hE
  have hHL : H ≠ L := Nat.ne_of_lt (Nat.lt_of_lt_of_le hHlt F.above)
  have hu' : (A.deeper (envOf dSiftup.name dSiftup.scope L f cd)).units < cLine := by rw [Around.deeper_units]; omega
  have lst₁ : h₁.PlainList H (xs.map Value.ref) := PlainList.ext hp.list hE id
  have rf : ∀ a, kle key a a := fun a => by
    by_cases q : kle key a a
    · exact q
    · exact tot _ _ q
  -- endpos = len(heap)
  refine wpAny_execs_cons (wpAny_Assign_Name (Call_ (blF F G (by decide) boot_len (callWith_builtin1 (args_cons (ldF F rfl (args_nil (lenI lst₁.isList (by simp only [Array.size_map]; omega) fun te _ => ?_))))))))
  rw [Array.size_map]
  refine stF F fun h₂ _ F₂ hs₂ => ?_
  have lst₂ := SameBut.list hs₂ lst₁ hHL
  -- startpos = pos
  refine wpAny_execs_cons (wpAny_Assign_Name (ldF F₂ rfl (stF F₂ fun h₃ _ F₃ hs₃ => ?_)))
  have lst₃ := SameBut.list hs₃ lst₂ hHL
  -- newitem = heap[pos]
  refine wpAny_execs_cons (wpAny_Assign_Name (sub_list (ldF F₃ rfl (ldF F₃ rfl ⟨H, _, p, t2, .ref (fAt xs p), rfl, rfl, lst₃.isList, by omega, by omega, refs_get hpn, ?_⟩))))
  refine stF F₃ fun h₄ _ F₄ hs₄ => ?_
  have lst₄ := SameBut.list hs₄ lst₃ hHL
  -- childpos = 2 * pos + 1
  refine wpAny_execs_cons (wpAny_Assign_Name (wpAny_BinOp (wpAny_BinOp (cI fun _ _ => ldF F₄ rfl (mulI (.of_left (by decide)) fun _ _ => cI fun _ _ => addI fun tc _ => ?_)))))
  have e1 : (2 : Int) * (p : Int) + 1 = ((2 * p + 1 : Nat) : Int) := by omega
  rw [e1]
  refine stF F₄ fun h₅ _ F₅ hs₅ => ?_
  have lst₅ := SameBut.list hs₅ lst₄ hHL
  have items : ∀ {hh : Heap} {vars : List (Str × Value)}, Fm base (One H) h L hh vars → ∀ a, a ∈ xs → ItemAt hh a (key a) := fun F' a ha => (hp.items a ha).ext F'.keep (hp.ne a ha)
  -- the end
  have fin : ∀ (hh : Heap) (tk' : Nat) (ys : Array Addr) (p' : Nat) (t : Tok),
      Fm base (One H) h L hh [(Str.ofString "heap", .ref H), (Str.ofString "startpos", .int p t2), (Str.ofString "pos", .int p' t), (Str.ofString "newitem", .ref (fAt xs p))] →
      hh.PlainList H (ys.map Value.ref) → ys.size = xs.size → p' < xs.size → Desc p p' → SU (kle key) xs.size b p p' (fAt xs p) (fAt ys) → (ys.setIfInBounds p' (fAt xs p)).Perm xs →
      xs.size ≤ 2 * p' + 1 →
      wpAny (model prog w) (A.deeper (envOf dSiftup.name dSiftup.scope L f cd)) (execs (dSiftup.body.drop 5) (envOf dSiftup.name dSiftup.scope L f cd))
        (fun f s' => R (.ok (.ret (match f with | .ret v => v | _ => .none))) s') (fun _ _ => False) (st s hh tk') := by
    intro hh tk' ys p' t F' lst hsz hpn' hD' S' hperm hend
    refine wpAny_execs_cons (wpAny_Assign_Subscript (ldF F' rfl (ldF F' rfl (ldF F' rfl (setP lst (by omega) (by omega) (by simp only [Array.size_map]; omega) fun h' hl hs => ?_)))))
    have hpy : p' < ys.size := by omega
    have e : ((p' : Int)).toNat = p' := by omega
    rw [e, map_set] at hl
    have F'' := F'.put hs
    refine wpAny_execs_cons (wpAny_Expr (Call_ (glF (d := dSiftdown) F'' G (by simp [defs]) fun a o' pm' code' doc' g1 g2 g3 g4 => ?_)))
    refine callWith_def g3 (args_cons (ldF F'' rfl (args_cons (ldF F'' rfl (args_cons (ldF F'' rfl (args_nil ⟨F''.based _ _ g2, wpAny_call ?_⟩)))))))
    have hz : (ys.setIfInBounds p' (fAt xs p)).size = xs.size := by rw [Array.size_setIfInBounds, hsz]
    have hat : fAt (ys.setIfInBounds p' (fAt xs p)) p' = fAt xs p := by rw [fAt_set hpy, upd_self]
    refine siftdown_call (xs := ys.setIfInBounds p' (fAt xs p)) (b := b) (sp := p) (p := p') (key := key) (H := H) G F''.based hH0 ⟨hl, fun a ha => items F'' a (hperm.mem_iff.mp ha), fun a ha => hp.ne a (hperm.mem_iff.mp ha)⟩ (by rw [hz]; exact hn) (by rw [hz]; exact hpn')
      hD' hbs ?_ tr tot g2 g3 g4 (by show A.depth + 1 < _; exact hroom) (by rw [Around.deeper_units]; omega) fun h'' tk'' zs hz1 hz2 hz3 hz4 => ?_
    · rw [hz, hat]
      exact (S'.bottom hend).congr (fun i _ hne => by rw [fAt_set hpy, upd_ne _ _ hne]) hD'.le hpn'
    · exact wpAny_execs_nil (hq h'' tk'' zs hz1 (hz2.trans hperm) hz3 (F''.keep.trans hz4))
  refine wpAny_execs_cons (wpAny_While ?_)
  refine codeAny_whileLoop (SuI s base h L H key xs b p te t2) ?turn (xs.size - p)
    ⟨h₅, _, xs, p, t2, _, rfl, F₅.sub ⟨rfl, rfl, rfl, rfl, rfl, rfl, trivial⟩, lst₅, rfl, hpn, .refl, S, by rw [set_self hpn], rfl⟩
  rintro n s' ⟨hh, tk', ys, p', t, tc', rfl, F', lst, hsz, hpn', hD', S', hperm, rfl⟩
  refine wpAny_isTrue_Compare1 (ldF F' rfl (ldF F' rfl (lt_int (wpAny_truthy_bool (split_dec (fun hlt => ?_) fun hge => ?_)))))
  · have hc1 : 2 * p' + 1 < xs.size := by omega
    refine hide fun Q₁ e₁ => ?_
    have nx : ∀ s₃, (∃ m, m < xs.size - p' ∧ SuI s base h L H key xs b p te t2 m s₃) → Q₁ .next s₃ := by subst e₁; exact fun _ z => z
    clear e₁ fin
    refine wpAny_execs_cons (wpAny_Assign_Name (wpAny_BinOp (ldF F' rfl (cI fun _ _ => addI fun tr' _ => ?_))))
    have e2 : ((2 * p' + 1 : Nat) : Int) + 1 = ((2 * p' + 2 : Nat) : Int) := by omega
    rw [e2]
    refine stF F' fun h₆ _ F₆ hs₆ => ?_
    have lst₆ := SameBut.list hs₆ lst hHL
    have memc : ∀ c, c < xs.size → c ≠ p' → fAt ys c ∈ xs := fun c hc hne => hperm.mem_iff.mp (by
      have := fAt_mem (xs := ys.setIfInBounds p' (fAt xs p)) (i := c) (by rw [Array.size_setIfInBounds]; omega)
      rwa [fAt_set (by omega), upd_ne _ _ hne] at this)
    -- behind the choice of the child
    have rest : ∀ (hh : Heap) (tk' : Nat) (c : Nat) (t' : Tok),
        Fm base (One H) h L hh [(Str.ofString "heap", .ref H), (Str.ofString "endpos", .int xs.size te), (Str.ofString "startpos", .int p t2), (Str.ofString "pos", .int (p' : Nat) t), (Str.ofString "newitem", .ref (fAt xs p)), (Str.ofString "childpos", .int (c : Nat) t')] →
        hh.PlainList H (ys.map Value.ref) → (c = 2 * p' + 1 ∨ c = 2 * p' + 2) → c < xs.size → (∀ d, 0 < d → d < xs.size → par d = p' → kle key (fAt ys c) (fAt ys d)) →
        wpAny (model prog w) (A.deeper (envOf dSiftup.name dSiftup.scope L f cd)) (execs ((bodyOf (nthS dSiftup.body 4)).drop 2) (envOf dSiftup.name dSiftup.scope L f cd))
          Q₁ (fun _ _ => False) (st s hh tk') := by
      intro hh tk' c t' F' lst hc hcn hmin
      have hne : c ≠ p' := by omega
      have hpc : par c = p' := by unfold par; omega
      refine wpAny_execs_cons (wpAny_Assign_Subscript (sub_list (ldF F' rfl (ldF F' rfl ⟨H, _, (c : Nat), _, .ref (fAt ys c), rfl, rfl, lst.isList, by omega, by omega, refs_get (by omega), ?_⟩))))
      refine ldF F' rfl (ldF F' rfl (setP lst (by omega) (by omega) (by simp only [Array.size_map]; omega) fun h₇ lst₇ hs₇ => ?_))
      have e5 : ((p' : Int)).toNat = p' := by omega
      rw [e5, map_set] at lst₇
      have F₇ := F'.put hs₇
      refine wpAny_execs_cons (wpAny_Assign_Name (ldF F₇ rfl (stF F₇ fun h₈ _ F₈ hs₈ => ?_)))
      have lst₈ := SameBut.list hs₈ lst₇ hHL
      refine wpAny_execs_cons (wpAny_Assign_Name (wpAny_BinOp (wpAny_BinOp (cI fun _ _ => ldF F₈ rfl (mulI (.of_left (by decide)) fun _ _ => cI fun _ _ => addI fun tc _ => ?_)))))
      have e1 : (2 : Int) * (c : Int) + 1 = ((2 * c + 1 : Nat) : Int) := by omega
      rw [e1]
      refine stF F₈ fun h₉ _ F₉ hs₉ => wpAny_execs_nil ?_
      refine nx _ ⟨xs.size - c, by omega, h₉, _, ys.setIfInBounds p' (fAt ys c), c, _, _, rfl, F₉.sub ⟨rfl, rfl, rfl, rfl, rfl, rfl, trivial⟩, SameBut.list hs₉ lst₈ hHL, by rw [Array.size_setIfInBounds, hsz], hcn, ?_, ?_, ?_, rfl⟩
      · rcases hc with rfl | rfl
        · exact .left hD'
        · exact .right hD'
      · rw [fAt_set (by omega)]
        exact S'.step hD'.le hbs hpc (by omega) hcn hmin
      · exact (perm_hole (by omega) (by omega) hne).trans hperm
    have kids : ∀ d, 0 < d → par d = p' → d = 2 * p' + 1 ∨ d = 2 * p' + 2 := fun d h0 hd => by unfold par at hd; omega
    refine wpAny_execs_cons (wpAny_If (wpAny_isTrue_BoolOp (wpAny_allTrue_And_cons (wpAny_isTrue_Compare1 (ldF F₆ rfl (ldF F₆ rfl (lt_int (wpAny_truthy_bool (split_dec (fun hr => ?_) fun hr => ?_)))))))))
    · have hc2 : 2 * p' + 2 < xs.size := by omega
      refine wpAny_allTrue_And_cons (wpAny_isTrue_Not (wpAny_isTrue_Compare1 (sub_list (ldF F₆ rfl (ldF F₆ rfl ⟨H, _, (2 * p' + 1 : Nat), _, .ref (fAt ys (2 * p' + 1)), rfl, rfl, lst₆.isList, by omega, by omega, refs_get (by omega), ?_⟩)))))
      refine sub_list (ldF F₆ rfl (ldF F₆ rfl ⟨H, _, (2 * p' + 2 : Nat), _, .ref (fAt ys (2 * p' + 2)), rfl, rfl, lst₆.isList, by omega, by omega, refs_get (by omega), ?_⟩))
      refine ltItems (items F₆ _ (memc _ hc1 (by omega))) (items F₆ _ (memc _ hc2 (by omega))) hu' (wpAny_truthy_bool ?_)
      cases hlt2 : itLt (key (fAt ys (2 * p' + 1))) (key (fAt ys (2 * p' + 2))) with
      | true =>
        refine wpAny_execs_nil (wpAny_mono (rest h₆ _ (2 * p' + 1) tc' (F₆.sub ⟨rfl, rfl, rfl, rfl, rfl, rfl, trivial⟩) lst₆ (.inl rfl) hc1 fun d d0 dn dp => ?_) (fun _ _ hf => hf) (fun _ _ hx => hx.elim))
        rcases kids d d0 dp with rfl | rfl
        · exact rf _
        · refine tot _ _ fun q => ?_
          have q' : itLt (key (fAt ys (2 * p' + 1))) (key (fAt ys (2 * p' + 2))) = false := q
          rw [hlt2] at q'; cases q'
      | false =>
        refine wpAny_allTrue_And_nil ?_
        refine wpAny_execs_cons (wpAny_Assign_Name (ldF F₆ rfl (stF F₆ fun h₇ _ F₇ hs₇ => wpAny_execs_nil ?_)))
        refine wpAny_mono (rest h₇ _ (2 * p' + 2) tr' (F₇.sub ⟨rfl, rfl, rfl, rfl, rfl, rfl, trivial⟩) (SameBut.list hs₇ lst₆ hHL) (.inr rfl) hc2 fun d d0 dn dp => ?_) (fun _ _ hf => hf) (fun _ _ hx => hx.elim)
        rcases kids d d0 dp with rfl | rfl
        · exact hlt2
        · exact rf _
    · refine wpAny_execs_nil (wpAny_mono (rest h₆ _ (2 * p' + 1) tc' (F₆.sub ⟨rfl, rfl, rfl, rfl, rfl, rfl, trivial⟩) lst₆ (.inl rfl) hc1 fun d d0 dn dp => ?_) (fun _ _ hf => hf) (fun _ _ hx => hx.elim))
      rcases kids d d0 dp with rfl | rfl
      · exact rf _
      · omega
  · exact wpAny_execs_nil (fin hh _ ys p' t (F'.sub ⟨rfl, rfl, rfl, rfl, trivial⟩) lst hsz hpn' hD' S' hperm (by omega))
end
end Mine
end

section
open PySem PySem.W PyProof.Rows
namespace Mine
open PySem.Calls

section
variable {prog : Program} {w : World} {A : Around} {E : Value → Shared → Prop} {s : Shared}

theorem small_rev {n : Nat} (hn : n < 2 ^ 20) : Builtin.Range.rangeSize 0 n 1 = n := by rw [rangeSize_one]; split <;> omega

theorem range_fields {M : Model} {r : Addr} {a b c : Int} {t u v : Tok} {Q : Int × Int × Int → Shared → Prop} (hl : IsRange s.heap r a b c t u v) (h : Q (a, b, c) s) :
    wpAny M A (Builtin.Range.rangeFields (.ref r)) Q E s := by
  unfold Builtin.Range.rangeFields
  refine wpAny_bind (wpAny_field hl rfl (x := .int a t) rfl ?_)
  refine wpAny_bind (wpAny_pure ?_)
  refine wpAny_bind (wpAny_field hl rfl (x := .int b u) rfl ?_)
  refine wpAny_bind (wpAny_pure ?_)
  refine wpAny_bind (wpAny_field hl rfl (x := .int c v) rfl ?_)
  refine wpAny_bind (wpAny_pure ?_)
  exact wpAny_pure h

theorem range_rev (r : Addr) (n : Nat) (t u v : Tok) (hn : n < 2 ^ 20) :
    Meets (Builtin.«range.__reversed__» ⟨[.ref r], []⟩) (fun _ R s => IsRange s.heap r 0 n 1 t u v ∧
      R (.ok (.ret (Value.ref s.heap.objs.size))) { s with heap := s.heap.push { cls := .type "range_iterator", data := .fields #[rawInt ((n : Int) - 1), rawInt n, rawInt (-1)] } }) := by
  have hz := small_rev hn
  have f1 : Builtin.Range.rangeFitsLong 0 = true := by decide +kernel
  have f2 : Builtin.Range.rangeFitsLong (n : Int) = true := by unfold Builtin.Range.rangeFitsLong; simp; omega
  have f3 : Builtin.Range.rangeFitsLong 1 = true := by decide +kernel
  have f4 : Builtin.Range.rangeFitsLong (-1) = true := by decide +kernel
  have f5 : Builtin.Range.rangeFitsLong (0 - 1) = true := by decide +kernel
  have hsm : (!(Builtin.Range.rangeFitsLong 0 && Builtin.Range.rangeFitsLong (n : Int) && Builtin.Range.rangeFitsLong 1 && Builtin.Range.rangeFitsLong (-1) && Builtin.Range.rangeFitsLong (0 - 1) && Builtin.Range.rangeFitsLong (Builtin.Range.rangeSize 0 n 1))) = false := by
    rw [hz, f1, f2, f3, f4, f5]; rfl
  refine .of_wp fun prog w A R s h => ?_
  obtain ⟨hl, h⟩ := h
  unfold Builtin.«range.__reversed__»
  refine wpAny_bind (wpAny_of_eq (a := Value.ref r) rfl ?_)
  refine wpAny_bind (range_fields hl ?_)
  dsimp only
  rw [hsm, if_neg (by simp)]
  have e1 : (0 : Int) + (Builtin.Range.rangeSize 0 n 1 - 1) * 1 = (n : Int) - 1 := by rw [hz]; omega
  have e2 : (Builtin.Range.rangeFitsLong 0 && Builtin.Range.rangeFitsLong (n : Int) && Builtin.Range.rangeFitsLong 1 && Builtin.Range.rangeFitsLong (-1) && Builtin.Range.rangeFitsLong (0 - 1) && Builtin.Range.rangeFitsLong (Builtin.Range.rangeSize 0 n 1)) = true := by simpa using hsm
  rw [e2, if_pos rfl, e1, hz]
  exact wpAny_bind (wpAny_newObj_type (wpAny_pure ⟨_, rfl, h⟩))

theorem newClass_rev (a : Value) : Builtin.SmallTypes.newClass "reversed" ⟨[.type "reversed", a], []⟩ = pure (.type "reversed", [a]) := newClass_reversed a

theorem sub_ri_reversed : isSubtype (.type "range_iterator") (.type "reversed") = pure false := by rw [isSubtype_type]; kernel_rfl

theorem call_range_rev {r : Addr} {n : Nat} {t u v : Tok} {Q : Value → Shared → Prop} (hr : IsRange s.heap r 0 n 1 t u v) (hn : n < 2 ^ 20)
    (h : Q (.ref s.heap.objs.size) { s with heap := s.heap.push { cls := .type "range_iterator", data := .fields #[rawInt ((n : Int) - 1), rawInt n, rawInt (-1)] } }) :
    wpAny (model prog w) A (call (.builtin "range.__reversed__") [.ref r]) Q E s :=
  call_meets F.slot_range_reversed ⟨_, hr, rfl⟩ F.entry_range_reversed (F.args_range_reversed_1 _) (range_rev r n t u v hn) ⟨hr, h⟩

theorem code_rev_range {r : Addr} {n : Nat} {t u v : Tok} {Q₁ : Value → Shared → Prop} (hr : IsRange s.heap r 0 n 1 t u v) (hn : n < 2 ^ 20)
    (h : Q₁ (.ref s.heap.objs.size) { s with heap := s.heap.push { cls := .type "range_iterator", data := .fields #[rawInt ((n : Int) - 1), rawInt n, rawInt (-1)] } }) :
    codeAny (model prog w) A (.call (.builtin "reversed.__new__") ⟨[.type "reversed", .ref r], []⟩) (wants Q₁ E) s := by
  refine codeAny_of_tree ?_
  show wpAny _ A.in1 (do checkBuiltinCall "reversed.__new__" ⟨[.type "reversed", .ref r], []⟩; again (.builtin "reversed.__new__" ⟨[.type "reversed", .ref r], []⟩)) _ _ s
  refine wpAny_bind (wpAny_of_eq (F.newCall_reversed_1 _) (wpAny_pure ⟨plainId_quiet F.plain_reversed_new _, codeAny_builtin F.entry_reversed_new ?_⟩))
  rw [Around.under_plainId F.plain_reversed_new _]
  unfold Builtin.«reversed.__new__»
  refine wpAny_bind (wpAny_of_eq (newClass_reversed _) ?_)
  try dsimp only
  refine wpAny_bind (wpAny_of_eq (a := ()) (by first | rfl | kernel_rfl) ?_)
  refine wpAny_bind (wpAny_of_eq (a := ()) (by first | rfl | kernel_rfl) ?_)
  try dsimp only
  refine wpAny_bind (wpAny_specialOf (T := "range") ⟨_, hr, rfl⟩ F.slot_range_reversed.lookup ?_)
  try dsimp only
  refine wpAny_bind (wpAny_of_eq (F.slot_range_reversed.bind _) ?_)
  try dsimp only
  first
  | rw [if_neg (show ¬ ((Value.builtin "range.__reversed__" == Value.none) = true) from Bool.false_ne_true)]
  | (show wpAny _ _ (if (Value.builtin "range.__reversed__" == Value.none) = true then _ else _) _ _ _; rw [if_neg (show ¬ ((Value.builtin "range.__reversed__" == Value.none) = true) from Bool.false_ne_true)])
  refine wpAny_bind (wpAny_rule ?_)
  refine wpAny_bind (m := runValue (.call (.builtin "range.__reversed__") ⟨[.ref r], []⟩)) (show wpAny _ _ (call (.builtin "range.__reversed__") [.ref r]) _ _ _ from call_range_rev hr hn ?_)
  first
  | exact wpAny_pure h
  | exact wpAny_bind (wpAny_pure (wpAny_pure h))

theorem call_reversed_range {r : Addr} {n : Nat} {t u v : Tok} {Q : Value → Shared → Prop} (hr : IsRange s.heap r 0 n 1 t u v) (hn : n < 2 ^ 20)
    (h : Q (.ref s.heap.objs.size) { s with heap := s.heap.push { cls := .type "range_iterator", data := .fields #[rawInt ((n : Int) - 1), rawInt n, rawInt (-1)] } }) :
    wpAny (model prog w) A (call (.type "reversed") [.ref r]) Q E s := by
  refine callType_other (U := "range_iterator") (Q₁ := fun obj s₁ => obj = .ref s.heap.objs.size ∧ s₁ = { s with heap := s.heap.push { cls := .type "range_iterator", data := .fields #[rawInt ((n : Int) - 1), rawInt n, rawInt (-1)] } }) (by decide +kernel) F.create_reversed ⟨_, _, F.mro_reversed⟩ F.made_reversed sub_ri_reversed (F.typeCall_reversed_1 _) (code_rev_range hr hn ⟨rfl, rfl⟩) ?_
  rintro obj s₁ ⟨rfl, rfl⟩
  exact ⟨⟨_, Heap.get?_push_size _ rfl, rfl⟩, h⟩
end

theorem Ext.push {h : Heap} {o : Obj} : Ext None h (h.push o) := fun _ _ _ e => Heap.get?_push_of_some _ e
theorem Ext.of_extBut {a : Addr} {h h' : Heap} (k : Heap.ExtBut a h h') : Ext (One a) h h' := fun b o hb e => k b o hb e

section
variable {base h₀ h h' : Heap} {X : Addr → Prop} {L I : Addr} {vars : List (Str × Value)}
/-- an object of the frame's own making changes -/
theorem Fm.own (F : Fm base X h₀ L h vars) (k : Ext (One I) h h') (h1 : h₀.objs.size ≤ I) (h2 : I ≠ L) : Fm base X h₀ L h' vars :=
  ⟨let ⟨m, hn, hm⟩ := F.ns; ⟨m, hn.at' fun o e => k L o h2.symm e, hm⟩, fun b o hb e => k b o (Nat.ne_of_lt (Nat.lt_of_lt_of_le (Heap.lt_size e) h1)) (F.keep b o hb e), F.above, F.base₀, F.hX, F.hXL⟩
theorem Fm.new (F : Fm base X h₀ L h vars) (hI : h.objs.size ≤ I) : h₀.objs.size ≤ I ∧ I ≠ L := ⟨Nat.le_trans F.above (Nat.le_trans (Nat.le_of_lt F.lt) hI), Nat.ne_of_gt (Nat.lt_of_lt_of_le F.lt hI)⟩
end

section
variable {prog : Program} {w : World} {A : Around} {E : Value → Shared → Prop} {s : Shared} {h : Heap} {tk : Nat}
theorem rng1 {n : Int} {t : Tok} {Q : Value → Shared → Prop} (hq : ∀ h' r tk' t' v, IsRange h' r 0 n 1 t' t v → Ext None h h' → h.objs.size ≤ r → Q (.ref r) (st s h' tk')) :
    wpAny (model prog w) A (call (.type "range") [.int n t]) Q E (st s h tk) := call_range_1 (hq _ _ _ _ _ (IsRange.new _ _ _ _ _ _ _) Ext.push (Nat.le_refl _))
theorem rng2 {a n : Int} {t u : Tok} {Q : Value → Shared → Prop} (hq : ∀ h' r tk' v, IsRange h' r a n 1 t u v → Ext None h h' → h.objs.size ≤ r → Q (.ref r) (st s h' tk')) :
    wpAny (model prog w) A (call (.type "range") [.int a t, .int n u]) Q E (st s h tk) := call_range_2 (hq _ _ _ _ (IsRange.new _ _ _ _ _ _ _) Ext.push (Nat.le_refl _))
theorem revR {r : Addr} {n : Nat} {t u v : Tok} {Q : Value → Shared → Prop} (hr : IsRange h r 0 n 1 t u v) (hn : n < 2 ^ 20)
    (hq : ∀ h' I, IsRangeIter h' I ((n : Int) - 1) n (-1) → Ext None h h' → h.objs.size ≤ I → Q (.ref I) (st s h' tk)) :
    wpAny (model prog w) A (call (.type "reversed") [.ref r]) Q E (st s h tk) := call_reversed_range (s := st s h tk) hr hn (hq _ _ (Heap.get?_push_size _ rfl) Ext.push (Nat.le_refl _))
theorem iterRI {it : Addr} {x left step : Int} {Q : Value → Shared → Prop} (hit : IsRangeIter h it x left step) (hq : Q (.ref it) (st s h tk)) : wpAny (model prog w) A (pyIter (.ref it)) Q E (st s h tk) :=
  wpAny_pyIter_rangeiter (s := st s h tk) hit hq
theorem iterR {r : Addr} {a b : Int} {n : Nat} {t u v : Tok} {Q : Value → Shared → Prop} (hr : IsRange h r a b 1 t u v) (ha : 0 ≤ a) (hb : b < 2 ^ 20) (ha' : a < 2 ^ 20) (hb' : 0 ≤ b) (hn : (b - a).toNat = n)
    (hq : ∀ h' I, IsRangeIter h' I a n 1 → Ext None h h' → h.objs.size ≤ I → Q (.ref I) (st s h' tk)) :
    wpAny (model prog w) A (pyIter (.ref r)) Q E (st s h tk) := by
  have hz : Builtin.Range.rangeSize a b 1 = n := by rw [rangeSize_one]; split <;> omega
  refine wpAny_pyIter_range (s := st s h tk) hr (small_one (by omega) (by omega) (by omega) (by omega)) (hq _ _ ?_ Ext.push (Nat.le_refl _))
  rw [hz]
  exact Heap.get?_push_size _ rfl
theorem nextR {it : Addr} {x left step : Int} {Q : Option Value → Shared → Prop} (hit : IsRangeIter h it x left step) (hleft : 0 < left)
    (hq : ∀ h' t tk', IsRangeIter h' it (x + step) (left - 1) step → Ext (One it) h h' → Q (some (.int x t)) (st s h' tk')) :
    wpAny (model prog w) A (pyNext (.ref it)) Q E (st s h tk) := wpAny_pyNext_range_item (s := st s h tk) hit hleft fun h' a b => hq h' _ _ a (sbExt b)
theorem endR {it : Addr} {x left step : Int} {Q : Option Value → Shared → Prop} (hh : A.handled = none) (hit : IsRangeIter h it x left step) (hleft : left ≤ 0)
    (hq : ∀ h', Ext (One it) h h' → Q none (st s h' tk)) : wpAny (model prog w) A (pyNext (.ref it)) Q E (st s h tk) :=
  wpAny_pyNext_range_end (s := st s h tk) hh hit hleft fun h' e => hq h' (Ext.of_extBut e)
theorem IsRangeIter.ext {X : Addr → Prop} {h' : Heap} {it : Addr} {x l c : Int} (i : IsRangeIter h it x l c) (k : Ext X h h') (hx : ¬ X it) : IsRangeIter h' it x l c := k _ _ hx i
theorem fdivI {a b : Int} {t u : Tok} {Q : Value → Shared → Prop} (hb : b ≠ 0) (hs : b.natAbs < 1073741824) (hq : ∀ t tk', Q (.int (a.fdiv b) t) (st s h tk')) : wpAny (model prog w) A (binaryOp .FloorDiv (.int a t) (.int b u)) Q E (st s h tk) :=
  floordiv_int (s := st s h tk) hb (hq _ _) (.inl (PyProof.noPylong_small hs))
end

section
variable {prog : Program} {w : World} {A : Around} {s : Shared} {h : Heap} {tk : Nat} {base : Heap} {mg mb : Str → Option Value} {key : Addr → Str × Int} {H : Addr} {xs : Array Addr}

theorem HpAt.ext {X : Addr → Prop} {h' : Heap} (p : HpAt h H xs key) (k : Ext X h h') (h1 : ¬ X H) (h2 : ∀ a ∈ xs, ¬ X a) : HpAt h' H xs key :=
  ⟨PlainList.ext p.list k h1, fun a ha => (p.items a ha).ext k (h2 a ha), p.ne⟩


set_option maxHeartbeats 4000000 in
theorem heapify_call {R : Result → Shared → Prop} {f : Addr} {o : Obj} {pm cd doc : Value} (G : Gl mg mb base)
    (K : ∀ b o, base.get? b = some o → h.get? b = some o) (hH0 : base.get? H = none) (hp : HpAt h H xs key) (hn : xs.size < 2 ^ 20)
    (tr : ∀ a c d, kle key a c → kle key c d → kle key a d) (tot : ∀ a c, ¬ kle key a c → kle key c a)
    (ho : base.get? f = some o) (hdata : o.data = .func (docDef dHeapify.name dHeapify.params dHeapify.body dHeapify.scope pm cd doc)) (hcd : base.CodeRec cd dHeapify.name)
    (hroom : A.depth + 2 < recursionLimit) (hu : A.units + 60 < cLine) (hh : A.handled = none)
    (hq : ∀ h' tk' ys, HpAt h' H ys key → ys.Perm xs → HeapFrom (kle key) ys.size 0 (fAt ys) → Ext (One H) h h' → R (.ok (.ret .none)) (st s h' tk')) :
    codeAny (model prog w) A (.call (.ref f) ⟨[.ref H], []⟩) R (st s h tk) := by
  have hHlt : H < h.objs.size := by obtain ⟨_, e⟩ := hp.list; exact Heap.lt_size e
  refine callF (d := dHeapify) (X := One H) (binds := [(Str.ofString "x", .ref H)]) G K (by rintro b rfl; exact hH0) (by rintro b rfl; exact hHlt) (by omega) ho hdata hcd rfl (locs rfl) ?_
  intro L h₁ tk₁ F hE
  have hHL : H ≠ L := Nat.ne_of_lt (Nat.lt_of_lt_of_le hHlt F.above)
  have hh' : (A.deeper (envOf dHeapify.name dHeapify.scope L f cd)).handled = none := hh
  have lst₁ : h₁.PlainList H (xs.map Value.ref) := PlainList.ext hp.list hE id
  -- n = len(x)
  refine wpAny_execs_cons (wpAny_Assign_Name (Call_ (blF F G (by decide) boot_len (callWith_builtin1 (args_cons (ldF F rfl (args_nil (lenI lst₁.isList (by simp only [Array.size_map]; omega) fun te _ => ?_))))))))
  rw [Array.size_map]
  refine stF F fun h₂ _ F₂ hs₂ => ?_
  have lst₂ := SameBut.list hs₂ lst₁ hHL
  -- the loop's head
  refine wpAny_execs_cons (wpAny_For (Call_ (blF F₂ G (by decide) boot_reversed (callWith_type1 (args_cons (Call_ (blF F₂ G (by decide) boot_range (callWith_type1 (args_cons (wpAny_BinOp (ldF F₂ rfl (cI fun _ _ => fdivI (by decide) (by decide) fun _ _ => args_nil ?_))))))))))))
  have e1 : ((xs.size : Nat) : Int).fdiv 2 = ((xs.size / 2 : Nat) : Int) := by rw [Int.fdiv_eq_ediv_of_nonneg _ (by decide)]; omega
  rw [e1]
  refine rng1 fun h₃ r _ _ _ hr k₃ _ => args_nil (revR hr (by omega) fun h₄ I hI k₄ hIn => iterRI hI ?_)
  have F₃ := F₂.kept k₃
  have hIo := F₃.new hIn
  have F₄ := F₃.kept k₄
  have lst₄ : h₄.PlainList H (xs.map Value.ref) := PlainList.ext (PlainList.ext lst₂ k₃ id) k₄ id
  have hIne : ∀ {b : Addr} {o : Obj}, h.get? b = some o → b ≠ I := fun e => Nat.ne_of_lt (Nat.lt_of_lt_of_le (Heap.lt_size e) hIo.1)
  have hHI : H ≠ I := Nat.ne_of_lt (Nat.lt_of_lt_of_le hHlt hIo.1)
  have items : ∀ {hh : Heap} {vars : List (Str × Value)}, Fm base (One H) h L hh vars → ∀ a, a ∈ xs → ItemAt hh a (key a) := fun F' a ha => (hp.items a ha).ext F'.keep (hp.ne a ha)
  refine codeAny_forLoop (fun j s' => ∃ h' tk' ys, s' = st s h' tk' ∧ Fm base (One H) h L h' [(Str.ofString "x", .ref H)] ∧ h'.PlainList H (ys.map Value.ref) ∧ ys.Perm xs ∧
      HeapFrom (kle key) xs.size j (fAt ys) ∧ IsRangeIter h' I ((j : Int) - 1) j (-1) ∧ j ≤ xs.size / 2) ?turn (xs.size / 2)
    ⟨h₄, _, xs, rfl, F₄.sub ⟨rfl, trivial⟩, lst₄, Array.Perm.refl _, fun i h0 hn hb => by unfold par at hb; omega, hI, Nat.le_refl _⟩
  rintro j s' ⟨h₅, tk₅, ys, rfl, F₅, lst₅, hperm, hF, hI₅, hj⟩
  have hsz : ys.size = xs.size := hperm.size_eq
  rcases Nat.eq_zero_or_pos j with rfl | hj0
  · refine endR hh' hI₅ (by omega) fun h₆ k₆ => wpAny_execs_nil (wpAny_execs_nil ?_)
    have F₆ := F₅.own k₆ hIo.1 hIo.2
    refine hq h₆ _ ys ⟨PlainList.ext lst₅ k₆ hHI, fun a ha => items F₆ a (hperm.mem_iff.mp ha), fun a ha => hp.ne a (hperm.mem_iff.mp ha)⟩ hperm (by rw [hsz]; exact hF) F₆.keep
  · refine nextR hI₅ (by omega) fun h₆ t₆ tk₆ hI₆ k₆ => ?_
    have F₆ := F₅.own k₆ hIo.1 hIo.2
    have lst₆ := PlainList.ext lst₅ k₆ hHI
    refine wpAny_assign_Name (stF F₆ fun h₇ _ F₇ hs₇ => ?_)
    have lst₇ := SameBut.list hs₇ lst₆ hHL
    have hI₇ := IsRangeIter.ext hI₆ (sbExt hs₇) hIo.2
    refine wpAny_execs_cons (wpAny_Expr (Call_ (glF (d := dSiftup) F₇ G (by simp [defs]) fun a o' pm' code' doc' g1 g2 g3 g4 => ?_)))
    refine callWith_def g3 (args_cons (ldF F₇ rfl (args_cons (ldF F₇ rfl (args_nil ⟨F₇.based _ _ g2, wpAny_call ?_⟩)))))
    have e2 : (j : Int) - 1 = ((j - 1 : Nat) : Int) := by omega
    rw [e2]
    refine siftup_call (xs := ys) (b := j - 1) (p := j - 1) (key := key) (H := H) G F₇.based hH0 ⟨lst₇, fun a ha => items F₇ a (hperm.mem_iff.mp ha), fun a ha => hp.ne a (hperm.mem_iff.mp ha)⟩ (by omega) (by omega) (Nat.le_refl _)
      ?_ tr tot g2 g3 g4 (by show A.depth + 1 + 1 < _; omega) (by rw [Around.deeper_units]; omega) fun h₈ tk₈ zs hz1 hz2 hz3 hz4 => ?_
    · rw [hsz]
      refine SU.heapify ?_
      rw [show j - 1 + 1 = j by omega]; exact hF
    · have F₈ := F₇.ext hz4
      have hzs : zs.size = xs.size := hz2.size_eq.trans hsz
      refine wpAny_execs_nil ⟨j - 1, by omega, h₈, _, zs, rfl, F₈.sub ⟨rfl, trivial⟩, hz1.list, hz2.trans hperm, by rw [← hzs]; exact hz3, ?_, by omega⟩
      have := IsRangeIter.ext hI₇ hz4 (Ne.symm hHI)
      rw [show ((j - 1 : Nat) : Int) - 1 = (j : Int) - 1 + -1 by omega, show ((j - 1 : Nat) : Int) = (j : Int) - 1 by omega]
      exact this
end
end Mine
end

section
open PySem PySem.W PyProof.Rows
namespace Mine
open PySem.Calls

theorem erase_last {α : Type} (xs : Array α) : xs.eraseIdxIfInBounds (xs.size - 1) = xs.pop := by
  unfold Array.eraseIdxIfInBounds
  split
  · rename_i h
    apply Array.ext_getElem?
    intro k
    rw [Array.getElem?_eraseIdx, Array.getElem?_pop]
    by_cases hk : k < xs.size - 1
    · simp [hk]
    · have h1 : ¬ k < xs.size - 1 := hk
      simp only [h1, if_false]
      rw [Array.getElem?_eq_none (by omega)]
  · rename_i h
    have : xs.size = 0 := by omega
    have : xs = #[] := by simpa using this
    subst this; rfl

section
variable {prog : Program} {w : World} {A : Around} {E : Value → Shared → Prop} {s : Shared} {h : Heap} {tk : Nat}
theorem popP {l : Addr} {items : Array Value} {y : Value} {Q : Value → Shared → Prop} (hl : h.PlainList l items) (hy : items[items.size - 1]? = some y) (hz : items.size ≤ 2 ^ 20)
    (hq : ∀ h', h'.PlainList l items.pop → Heap.SameBut l h h' → Q y (st s h' tk)) :
    wpAny (model prog w) A (call (.builtin "list.pop") [.ref l]) Q E (st s h tk) := by
  obtain ⟨n, ho⟩ := hl
  refine call_meets (s := st s h tk) PySem.F.slot_list_pop ⟨_, ho, rfl⟩ PySem.F.entry_list_pop (PySem.F.args_list_pop_1 _) (MeetsSeq.list_pop_last l items n y hy (by rw [sizeLine_eq]; omega)) ⟨ho, ?_⟩
  refine hq (h.update l (Obj.mapSeq fun xs => xs.eraseIdxIfInBounds (items.size - 1))) ⟨if (items.eraseIdxIfInBounds (items.size - 1)).size == items.size then n else n + 1, ?_⟩ (Heap.SameBut.update ..)
  rw [Heap.get?_update_self (f := Obj.mapSeq fun xs => xs.eraseIdxIfInBounds (items.size - 1)) (e := ho) (hf := rfl)]
  simp [Obj.mapSeq, erase_last]

theorem methP {l : Addr} {items : Array Value} {name : Str} {id : String} {pl : Sem Bool} {Q : Value × List Value → Shared → Prop} (slot : Slot "list" name id)
    (hty : typeOf (.builtin id) = pure (.type "method_descriptor")) (hl : h.PlainList l items) (hq : Q (.builtin id, [.ref l]) (st s h tk)) :
    wpAny (model prog w) A (getMethod (.ref l) name pl) Q E (st s h tk) :=
  getMethod_list_of (s := st s h tk) slot hty hl.isList (by obtain ⟨n, ho⟩ := hl; exact ⟨_, ho, rfl⟩) hq

theorem truthyP {l : Addr} {items : Array Value} {Q : Bool → Shared → Prop} (hl : h.IsList l items) (hfit : (items.size : Int) < 2 ^ 63)
    (hq : ∀ tk', Q (!items.isEmpty) (st s h tk')) : wpAny (model prog w) A (truthy (.ref l)) Q E (st s h tk) := wpAny_truthy_list (s := st s h tk) hl hfit (hq _)
end

theorem fAt_pop {xs : Array Addr} {i : Nat} (h : i < xs.size - 1) : fAt xs.pop i = fAt xs i := by
  unfold fAt
  rw [Array.getD_eq_getD_getElem?, Array.getD_eq_getD_getElem?, Array.getElem?_pop, if_pos h]

/-- the first of a heap taken, the last put in its place -/
theorem perm_pop {xs : Array Addr} (h : 1 < xs.size) : ((xs.pop.setIfInBounds 0 (fAt xs (xs.size - 1))).push (fAt xs 0)).Perm xs := by
  have e : (xs.pop.setIfInBounds 0 (fAt xs (xs.size - 1))).push (fAt xs 0) = xs.swapIfInBounds 0 (xs.size - 1) := by
    apply Array.ext_getElem?
    intro k
    rw [getElem?_swapIB (by omega) (by omega)]
    have h0 := fAt_get (xs := xs) (i := 0) (by omega)
    have h1 := fAt_get (xs := xs) (i := xs.size - 1) (by omega)
    rw [Array.getElem?_push, Array.getElem?_setIfInBounds]
    simp only [Array.size_setIfInBounds, Array.size_pop, Array.getElem?_pop]
    by_cases hk : k = xs.size - 1
    · subst hk; simp [h0]
    · by_cases hk0 : k = 0
      · subst hk0
        have : ¬ (0 = xs.size - 1) := by omega
        have h3 : 0 < xs.size - 1 := by omega
        simp [this, h3, h1, show ¬ xs.size - 1 = 0 by omega]
      · have h4 : ¬ 0 = k := fun e => hk0 e.symm
        simp only [hk, hk0, h4, if_false]
        by_cases h5 : k < xs.size - 1
        · simp [h5, show ¬ xs.size - 1 = k by omega]
        · simp [h5, show ¬ xs.size - 1 = k by omega]; omega
  rw [e]; exact swapIB_perm _ _ _

section
variable {prog : Program} {w : World} {A : Around} {s : Shared} {h : Heap} {tk : Nat} {base : Heap} {mg mb : Str → Option Value} {key : Addr → Str × Int} {H : Addr} {xs : Array Addr}

set_option maxHeartbeats 4000000 in
theorem heappop_call {R : Result → Shared → Prop} {f : Addr} {o : Obj} {pm cd doc : Value} (G : Gl mg mb base)
    (K : ∀ b o, base.get? b = some o → h.get? b = some o) (hH0 : base.get? H = none) (hp : HpAt h H xs key) (hn : xs.size < 2 ^ 20) (hpos : 0 < xs.size)
    (hheap : HeapFrom (kle key) xs.size 0 (fAt xs))
    (tr : ∀ a c d, kle key a c → kle key c d → kle key a d) (tot : ∀ a c, ¬ kle key a c → kle key c a)
    (ho : base.get? f = some o) (hdata : o.data = .func (docDef dHeappop.name dHeappop.params dHeappop.body dHeappop.scope pm cd doc)) (hcd : base.CodeRec cd dHeappop.name)
    (hroom : A.depth + 2 < recursionLimit) (hu : A.units + 60 < cLine)
    (hq : ∀ h' tk' ys, HpAt h' H ys key → (ys.push (fAt xs 0)).Perm xs → HeapFrom (kle key) ys.size 0 (fAt ys) → Ext (One H) h h' → R (.ok (.ret (.ref (fAt xs 0)))) (st s h' tk')) :
    codeAny (model prog w) A (.call (.ref f) ⟨[.ref H], []⟩) R (st s h tk) := by
  have hHlt : H < h.objs.size := by obtain ⟨_, e⟩ := hp.list; exact Heap.lt_size e
  refine callF (d := dHeappop) (X := One H) (binds := [(Str.ofString "heap", .ref H)]) G K (by rintro b rfl; exact hH0) (by rintro b rfl; exact hHlt) (by omega) ho hdata hcd rfl (locs rfl) ?_
  intro L h₁ tk₁ F hE
  have hHL : H ≠ L := Nat.ne_of_lt (Nat.lt_of_lt_of_le hHlt F.above)
  have lst₁ : h₁.PlainList H (xs.map Value.ref) := PlainList.ext hp.list hE id
  have items : ∀ {hh : Heap} {vars : List (Str × Value)}, Fm base (One H) h L hh vars → ∀ a, a ∈ xs → ItemAt hh a (key a) := fun F' a ha => (hp.items a ha).ext F'.keep (hp.ne a ha)
  -- lastelt = heap.pop()
  refine wpAny_execs_cons (wpAny_Assign_Name (MethodCall_ (ldF F rfl (methP PySem.F.slot_list_pop PySem.F.type_list_pop lst₁ (callWith_method0 (popP (y := .ref (fAt xs (xs.size - 1))) lst₁ ?_ (by simp only [Array.size_map]; omega) fun h₂ lst₂ hs₂ => ?_))))))
  · simp only [Array.size_map]; exact refs_get (by omega)
  have F₂ := F.put hs₂
  have e1 : (xs.map Value.ref).pop = xs.pop.map Value.ref := by simp
  rw [e1] at lst₂
  refine stF F₂ fun h₃ _ F₃ hs₃ => ?_
  have lst₃ := SameBut.list hs₃ lst₂ hHL
  refine wpAny_execs_cons (wpAny_If (wpAny_isTrue_value (ldF F₃ rfl (truthyP lst₃.isList (by simp only [Array.size_map, Array.size_pop]; omega) fun _ => ?_))))
  by_cases h1 : xs.size = 1
  · have hx : xs.pop = #[] := by apply Array.eq_empty_of_size_eq_zero; rw [Array.size_pop]; omega
    have he : (xs.pop.map Value.ref).isEmpty = true := by rw [hx]; simp
    rw [he]
    refine wpAny_execs_nil (wpAny_execs_cons (wpAny_Return_some (ldF F₃ rfl ?_)))
    rw [show xs.size - 1 = 0 by omega]
    rw [hx] at lst₃
    refine hq h₃ _ #[] ⟨lst₃, fun a ha => by simp at ha, fun a ha => by simp at ha⟩ ?_ (fun i h0 hn => by simp at hn) F₃.keep
    have : xs = #[fAt xs 0] := by
      apply Array.ext_getElem?
      intro k
      by_cases hk : k = 0
      · subst hk; rw [fAt_get (by omega)]; rfl
      · rw [Array.getElem?_eq_none (by omega), Array.getElem?_eq_none (by simp; omega)]
    rw [show (#[] : Array Addr).push (fAt xs 0) = #[fAt xs 0] from rfl, ← this]
  · have hgt : 1 < xs.size := by omega
    have he : (xs.pop.map Value.ref).isEmpty = false := by
      rw [Array.isEmpty_eq_false_iff]; intro q
      have := congrArg Array.size q
      simp at this; omega
    rw [he]
    have hps : 0 < xs.pop.size := by rw [Array.size_pop]; omega
    have e0 : fAt xs.pop 0 = fAt xs 0 := fAt_pop (by omega)
    refine wpAny_execs_cons (wpAny_Assign_Name (sub_list (ldF F₃ rfl (cI fun _ _ => ⟨H, _, 0, _, .ref (fAt xs 0), rfl, rfl, lst₃.isList, by omega, by omega, by rw [← e0]; exact refs_get hps, ?_⟩))))
    refine stF F₃ fun h₄ _ F₄ hs₄ => ?_
    have lst₄ := SameBut.list hs₄ lst₃ hHL
    refine wpAny_execs_cons (wpAny_Assign_Subscript (ldF F₄ rfl (ldF F₄ rfl (cI fun _ _ => setP lst₄ (by omega) (by omega) (by simp only [Array.size_map, Array.size_pop]; omega) fun h₅ lst₅ hs₅ => ?_))))
    rw [show (0 : Int).toNat = 0 from rfl, map_set] at lst₅
    have F₅ := F₄.put hs₅
    have hpm := perm_pop hgt
    have mem : ∀ a, a ∈ xs.pop.setIfInBounds 0 (fAt xs (xs.size - 1)) → a ∈ xs := fun a ha => hpm.mem_iff.mp (Array.mem_push.mpr (.inl ha))
    refine wpAny_execs_cons (wpAny_Expr (Call_ (glF (d := dSiftup) F₅ G (by simp [defs]) fun a o' pm' code' doc' g1 g2 g3 g4 => ?_)))
    refine callWith_def g3 (args_cons (ldF F₅ rfl (args_cons (cI fun _ _ => args_nil ⟨F₅.based _ _ g2, wpAny_call ?_⟩))))
    have hz : (xs.pop.setIfInBounds 0 (fAt xs (xs.size - 1))).size = xs.size - 1 := by rw [Array.size_setIfInBounds, Array.size_pop]
    refine siftup_call (xs := xs.pop.setIfInBounds 0 (fAt xs (xs.size - 1))) (b := 0) (p := 0) (key := key) (H := H) G F₅.based hH0 ⟨lst₅, fun a ha => items F₅ a (mem a ha), fun a ha => hp.ne a (mem a ha)⟩ (by omega) (by omega) (Nat.le_refl _)
      ?_ tr tot g2 g3 g4 (by show A.depth + 1 + 1 < _; omega) (by rw [Around.deeper_units]; omega) fun h₆ tk₆ zs hz1 hz2 hz3 hz4 => ?_
    · rw [hz]
      have at' : ∀ i, i ≠ 0 → i < xs.size - 1 → fAt (xs.pop.setIfInBounds 0 (fAt xs (xs.size - 1))) i = fAt xs i := fun i h0 hi => by
        rw [fAt_set hps, upd_ne _ _ h0, fAt_pop hi]
      refine ⟨fun i h0 hi _ _ hpar => ?_, fun h0 => by omega, fun h0 => by omega⟩
      rw [at' i (by omega) hi, at' (par i) hpar (by unfold par; omega)]
      exact hheap i h0 (by omega) (Nat.zero_le _)
    · have F₆ := F₅.ext hz4
      refine wpAny_execs_cons (wpAny_Return_some (ldF F₆ rfl ?_))
      refine hq h₆ _ zs hz1 ?_ hz3 F₆.keep
      exact (Array.Perm.push _ hz2).trans hpm
end
end Mine
end

section
open PySem PySem.W PyProof.Rows
namespace Mine

/-! ## the order of the items -/
theorem itLt_irrefl (a : Str × Int) : itLt a a = false := by simp [itLt]
theorem cps_inj {a b : Str} (h : a.cps.toList = b.cps.toList) : a = b := by
  cases a; cases b; simp only at h; congr; exact Array.toList_inj.mp h
theorem itLt_iff (a b : Str × Int) : itLt a b = true ↔ (a.1 = b.1 ∧ a.2 < b.2) ∨ (a.1 ≠ b.1 ∧ a.1.cps.toList < b.1.cps.toList) := by
  unfold itLt
  by_cases h : a.1 = b.1
  · simp [h]
  · have : (a.1 == b.1) = false := by simpa using h
    simp [this, h]
theorem itLt_iff' (a b : Str × Int) : itLt a b = true ↔ (a.1.cps.toList = b.1.cps.toList ∧ a.2 < b.2) ∨ a.1.cps.toList < b.1.cps.toList := by
  rw [itLt_iff]
  constructor
  · rintro (⟨h1, h2⟩ | ⟨h1, h2⟩)
    · exact .inl ⟨by rw [h1], h2⟩
    · exact .inr h2
  · rintro (⟨h1, h2⟩ | h2)
    · exact .inl ⟨cps_inj h1, h2⟩
    · refine .inr ⟨fun e => ?_, h2⟩
      rw [e] at h2; exact List.lt_irrefl _ h2
theorem itLt_trans {a b c : Str × Int} (h1 : itLt a b = true) (h2 : itLt b c = true) : itLt a c = true := by
  rw [itLt_iff'] at *
  rcases h1 with ⟨e1, l1⟩ | l1 <;> rcases h2 with ⟨e2, l2⟩ | l2
  · exact .inl ⟨e1.trans e2, by omega⟩
  · exact .inr (e1 ▸ l2)
  · exact .inr (e2 ▸ l1)
  · exact .inr (List.lt_trans l1 l2)
theorem itLt_neg {a c : Str × Int} (b : Str × Int) (h : itLt a c = true) : itLt a b = true ∨ itLt b c = true := by
  rw [itLt_iff'] at h
  rw [itLt_iff', itLt_iff']
  rcases h with ⟨e, l⟩ | l
  · by_cases hab : a.1.cps.toList < b.1.cps.toList
    · exact .inl (.inr hab)
    · by_cases hbc : b.1.cps.toList < c.1.cps.toList
      · exact .inr (.inr hbc)
      · have hba : b.1.cps.toList = a.1.cps.toList := List.le_antisymm (List.not_lt.mp hab) (e ▸ List.not_lt.mp hbc)
        by_cases h2 : a.2 < b.2
        · exact .inl (.inl ⟨hba.symm, h2⟩)
        · exact .inr (.inl ⟨hba.trans e, by omega⟩)
  · by_cases hab : a.1.cps.toList < b.1.cps.toList
    · exact .inl (.inr hab)
    · exact .inr (.inr (List.lt_of_le_of_lt (List.not_lt.mp hab) l))
theorem itLt_total {a b : Str × Int} (h1 : itLt a b = false) (h2 : itLt b a = false) : a = b := by
  have n1 : ¬ itLt a b = true := by simp [h1]
  have n2 : ¬ itLt b a = true := by simp [h2]
  rw [itLt_iff'] at n1 n2
  simp only [not_or, not_and] at n1 n2
  have e : a.1.cps.toList = b.1.cps.toList := List.le_antisymm (List.not_lt.mp n2.2) (List.not_lt.mp n1.2)
  have := n1.1 e
  have := n2.1 e.symm
  exact Prod.ext (cps_inj e) (by omega)

def itOrd : KeyOrd where
  α := Str × Int
  blt := itLt
  irrefl := itLt_irrefl
  trans _ _ _ := itLt_trans
  negTrans _ b _ := itLt_neg b
  total _ _ := itLt_total

theorem kle_tr (key : Addr → Str × Int) : ∀ a c d, kle key a c → kle key c d → kle key a d := fun a c d h1 h2 => KeyOrd.kle_trans (O := itOrd) (a := key a) (b := key c) (c := key d) h1 h2
theorem kle_tot (key : Addr → Str × Int) : ∀ a c, ¬ kle key a c → kle key c a := fun a c h => by
  have : itLt (key c) (key a) = true := by
    cases hq : itLt (key c) (key a) with
    | true => rfl
    | false => exact absurd hq h
  exact KeyOrd.kle_of_klt (O := itOrd) (a := key c) (b := key a) this

/-! ## the sort's decision tree sorts -/
def KT (O : KeyOrd) (n : Nat) (k : Nat → O.α) {α : Type} : KasT α → (α → Prop) → Prop
  | .ret a, Q => Q a
  | .ask i j f, Q => i < n ∧ j < n ∧ KT O n k (f (O.blt (k i) (k j))) Q

section
variable {O : KeyOrd} {n : Nat} {k : Nat → O.α}

theorem KT.bind {α β : Type} {f : α → KasT β} {Q : β → Prop} : ∀ (t : KasT α), KT O n k t (fun a => KT O n k (f a) Q) → KT O n k (t.bind f) Q
  | .ret _, h => h
  | .ask _ _ g, ⟨h1, h2, h3⟩ => ⟨h1, h2, KT.bind (g _) h3⟩
theorem KT.mono {α : Type} {Q Q' : α → Prop} (hq : ∀ a, Q a → Q' a) : ∀ (t : KasT α), KT O n k t Q → KT O n k t Q'
  | .ret _, h => hq _ h
  | .ask _ _ g, ⟨h1, h2, h3⟩ => ⟨h1, h2, KT.mono hq (g _) h3⟩

/-- the numbers 0 .. n - 1 in some order -/
def Pm (n : Nat) (p : Array Nat) : Prop := p.toList.Perm (List.range n)
theorem Pm.size {p : Array Nat} (h : Pm n p) : p.size = n := by have := h.length_eq; simpa using this
theorem Pm.lt {p : Array Nat} (h : Pm n p) (hn : 0 < n) (i : Nat) : p.getD i 0 < n := by
  by_cases hi : i < p.size
  · have : p.getD i 0 ∈ p.toList := by simp [hi]
    exact List.mem_range.mp (h.mem_iff.mp this)
  · have : p.getD i 0 = 0 := by simp [hi]
    omega
theorem Pm.rev {p : Array Nat} (h : Pm n p) (i j : Nat) : Pm n (kas_rev p i j) := (mirror_perm p i j ((j - i) / 2)).toList.trans h
theorem Pm.bub {p : Array Nat} (h : Pm n p) (i d : Nat) : Pm n (bubble p i d) := (bubble_perm p i d).toList.trans h

theorem getD_rev {p : Array Nat} {i j : Nat} (hj : j ≤ p.size) (x : Nat) : (kas_rev p i j).getD x 0 = if i ≤ x ∧ x < j then p.getD (i + j - 1 - x) 0 else p.getD x 0 := by
  unfold kas_rev
  rw [Array.getD_eq_getD_getElem?, getElem?_mirror_all hj]
  split <;> rw [Array.getD_eq_getD_getElem?]
theorem getD_bub {p : Array Nat} {i d : Nat} (hi : i < p.size) (hd : d ≤ i) (x : Nat) : (bubble p i d).getD x 0 = if x = i - d then p.getD i 0 else if i - d < x ∧ x ≤ i then p.getD (x - 1) 0 else p.getD x 0 := by
  simp only [Array.getD_eq_getD_getElem?]
  rw [getElem?_bubble hi d hd]
  split
  · rfl
  · split <;> rfl

variable (k) in
def Up (p : Array Nat) (m : Nat) : Prop := ∀ i j, i ≤ j → j < m → O.kle (k (p.getD i 0)) (k (p.getD j 0))
variable (k) in
def Dn (p : Array Nat) (m : Nat) : Prop := ∀ i j, i ≤ j → j < m → O.kle (k (p.getD j 0)) (k (p.getD i 0))

theorem Up.one (p : Array Nat) : Up k p 1 := fun i j h1 h2 => by
  have : i = j := by omega
  subst this; exact KeyOrd.kle_refl _
theorem Up.step {p : Array Nat} {m : Nat} (h : Up k p m) (hm : 1 ≤ m) (hle : O.kle (k (p.getD (m - 1) 0)) (k (p.getD m 0))) : Up k p (m + 1) := fun i j h1 h2 => by
  by_cases hj : j = m
  · subst hj
    by_cases hi : i = j
    · subst hi; exact KeyOrd.kle_refl _
    · exact KeyOrd.kle_trans (h i (j - 1) (by omega) (by omega)) hle
  · exact h i j h1 (by omega)
theorem Dn.step {p : Array Nat} {m : Nat} (h : Dn k p m) (hm : 1 ≤ m) (hle : O.kle (k (p.getD m 0)) (k (p.getD (m - 1) 0))) : Dn k p (m + 1) := fun i j h1 h2 => by
  by_cases hj : j = m
  · subst hj
    by_cases hi : i = j
    · subst hi; exact KeyOrd.kle_refl _
    · exact KeyOrd.kle_trans hle (h i (j - 1) (by omega) (by omega))
  · exact h i j h1 (by omega)
theorem Dn.up {p : Array Nat} {m : Nat} (h : Dn k p m) (hm : m ≤ p.size) : Up k (kas_rev p 0 m) m := fun i j h1 h2 => by
  rw [getD_rev hm, getD_rev hm, if_pos (by omega), if_pos (by omega)]
  exact h _ _ (by omega) (by omega)

theorem blt_le {a b : O.α} (h : O.blt a b = true) : O.kle a b := KeyOrd.kle_of_klt h

theorem asc_ {p : Array Nat} (hp : Pm n p) (hn : 0 < n) : ∀ (f m : Nat), 1 ≤ m → m + f ≤ n → Up k p m →
    KT O n k (kas_asc p f m) (fun m' => m ≤ m' ∧ m' ≤ m + f ∧ Up k p m' ∧ (m' < m + f → O.blt (k (p.getD m' 0)) (k (p.getD (m' - 1) 0)) = true))
  | 0, m, h1, h2, hU => ⟨Nat.le_refl _, Nat.le_refl _, hU, fun h => by omega⟩
  | f + 1, m, h1, h2, hU => by
    refine ⟨hp.lt hn _, hp.lt hn _, ?_⟩
    cases hc : O.blt (k (p.getD m 0)) (k (p.getD (m - 1) 0)) with
    | true => exact ⟨Nat.le_refl _, by omega, hU, fun _ => hc⟩
    | false =>
      refine KT.mono ?_ _ (asc_ hp hn f (m + 1) (by omega) (by omega) (hU.step h1 hc))
      rintro m' ⟨a1, a2, a3, a4⟩
      exact ⟨by omega, by omega, a3, fun h => a4 (by omega)⟩

theorem tail3_ {p : Array Nat} {m nrem : Nat} (hp : Pm n p) (hn : 0 < n) (h1 : 1 ≤ m) (h2 : m ≤ nrem) (h3 : nrem ≤ n) (hD : Dn k p m) :
    KT O n k (kas_tail3 m nrem p) (fun r => 1 ≤ r.1 ∧ r.1 ≤ nrem ∧ Pm n r.2 ∧ Up k r.2 r.1) := by
  refine KT.bind _ (KT.mono ?_ _ (asc_ (hp.rev 0 m) hn (nrem - m) m h1 (by omega) (hD.up (by rw [hp.size]; omega))))
  rintro m' ⟨a1, a2, a3, _⟩
  exact ⟨by omega, by omega, hp.rev 0 m, a3⟩

/-- a run of equal ones turned round -/
theorem Dn.turn {p : Array Nat} {m i : Nat} (h : Dn k p m) (hm : m ≤ p.size) (he : ∀ x, i ≤ x → x < m → k (p.getD x 0) = k (p.getD (m - 1) 0)) : ∀ x, k ((kas_rev p i m).getD x 0) = k (p.getD x 0) := fun x => by
  rw [getD_rev hm]
  split
  · rw [he _ (by omega) (by omega), he x (by omega) (by omega)]
  · rfl
theorem Dn.congr {p p' : Array Nat} {m : Nat} (h : Dn k p m) (e : ∀ x, k (p'.getD x 0) = k (p.getD x 0)) : Dn k p' m := fun i j h1 h2 => by rw [e, e]; exact h i j h1 h2

theorem desc_ : ∀ (f : Nat) (p : Array Nat) (m q : Nat), Pm n p → 0 < n → 1 ≤ m → m + f ≤ n → q + 1 ≤ m → Dn k p m → (∀ x, m - (q + 1) ≤ x → x < m → k (p.getD x 0) = k (p.getD (m - 1) 0)) →
    KT O n k (kas_desc f p m q) (fun r => Pm n r.1 ∧ 1 ≤ r.2.1 ∧ r.2.1 ≤ m + f ∧ r.2.2 + 1 ≤ r.2.1 ∧ Dn k r.1 r.2.1 ∧ (∀ x, r.2.1 - (r.2.2 + 1) ≤ x → x < r.2.1 → k (r.1.getD x 0) = k (r.1.getD (r.2.1 - 1) 0)))
  | 0, p, m, q, hp, hn, h1, h2, h3, hD, he => ⟨hp, h1, Nat.le_refl _, h3, hD, he⟩
  | f + 1, p, m, q, hp, hn, h1, h2, h3, hD, he => by
    refine ⟨hp.lt hn _, hp.lt hn _, ?_⟩
    cases hc : O.blt (k (p.getD m 0)) (k (p.getD (m - 1) 0)) with
    | true =>
      (dsimp only; rw [if_pos rfl])
      have fin : ∀ p', Pm n p' → (∀ x, k (p'.getD x 0) = k (p.getD x 0)) → KT O n k (kas_desc f p' (m + 1) 0) (fun r => Pm n r.1 ∧ 1 ≤ r.2.1 ∧ r.2.1 ≤ m + (f + 1) ∧ r.2.2 + 1 ≤ r.2.1 ∧ Dn k r.1 r.2.1 ∧ (∀ x, r.2.1 - (r.2.2 + 1) ≤ x → x < r.2.1 → k (r.1.getD x 0) = k (r.1.getD (r.2.1 - 1) 0))) := by
        intro p' hp' e
        refine KT.mono ?_ _ (desc_ f p' (m + 1) 0 hp' hn (by omega) (by omega) (by omega) ((hD.step h1 (blt_le hc)).congr e) fun x hx1 hx2 => by
          have : x = m + 1 - 1 := by omega
          rw [this])
        rintro r ⟨a1, a2, a3, a4, a5, a6⟩
        exact ⟨a1, a2, by omega, a4, a5, a6⟩
      split
      · exact fin _ (hp.rev _ _) (hD.turn (by rw [hp.size]; omega) he)
      · exact fin _ hp fun _ => rfl
    | false =>
      (dsimp only; rw [if_neg (by simp)])
      refine ⟨hp.lt hn _, hp.lt hn _, ?_⟩
      cases hc2 : O.blt (k (p.getD (m - 1) 0)) (k (p.getD m 0)) with
      | true => exact ⟨hp, h1, Nat.le_add_right _ _, h3, hD, he⟩
      | false =>
        (dsimp only; rw [if_neg (by simp)])
        have heq : k (p.getD m 0) = k (p.getD (m - 1) 0) := O.total _ _ hc hc2
        refine KT.mono ?_ _ (desc_ f p (m + 1) (q + 1) hp hn (by omega) (by omega) (by omega) (hD.step h1 (by rw [heq]; exact KeyOrd.kle_refl _)) fun x hx1 hx2 => by
          by_cases hx : x = m
          · rw [hx]; rfl
          · rw [he x (by omega) (by omega), ← heq]; rfl)
        rintro r ⟨a1, a2, a3, a4, a5, a6⟩
        exact ⟨a1, a2, by omega, a4, a5, a6⟩

theorem descPart_ {p : Array Nat} {m nrem : Nat} (hp : Pm n p) (hn : 0 < n) (h1 : 1 ≤ m) (h2 : m + 1 ≤ nrem) (h3 : nrem ≤ n) (hD : Dn k p m) (hlt : O.blt (k (p.getD m 0)) (k (p.getD (m - 1) 0)) = true) :
    KT O n k (kas_descPart m nrem p) (fun r => 1 ≤ r.1 ∧ r.1 ≤ nrem ∧ Pm n r.2 ∧ Up k r.2 r.1) := by
  refine KT.bind _ (KT.mono ?_ _ (desc_ (nrem - (m + 1)) p (m + 1) 0 hp hn (by omega) (by omega) (by omega) (hD.step h1 (blt_le hlt)) fun x hx1 hx2 => by
    have : x = m + 1 - 1 := by omega
    rw [this]))
  rintro ⟨p', m', q'⟩ ⟨a1, a2, a3, a4, a5, a6⟩
  dsimp only at a1 a2 a3 a4 a5 a6 ⊢
  split
  · exact tail3_ (a1.rev _ _) hn a2 (by omega) h3 (a5.congr (a5.turn (by rw [a1.size]; omega) a6))
  · exact tail3_ a1 hn a2 (by omega) h3 a5

theorem count_ {p : Array Nat} (hp : Pm n p) (hn : 0 < n) : KT O n k (kas_count n p) (fun r => 1 ≤ r.1 ∧ r.1 ≤ n ∧ Pm n r.2 ∧ Up k r.2 r.1) := by
  refine KT.bind _ (KT.mono ?_ _ (asc_ hp hn (n - 1) 1 (Nat.le_refl _) (by omega) (Up.one p)))
  rintro m ⟨a1, a2, a3, a4⟩
  split
  · exact ⟨a1, by omega, hp, a3⟩
  · rename_i hne
    have hmn : m < n := by
      have : m ≠ n := by simpa using hne
      omega
    have hlt := a4 (by omega)
    split
    · rename_i h1
      refine ⟨hp.lt hn _, hp.lt hn _, ?_⟩
      cases hc : O.blt (k (p.getD 0 0)) (k (p.getD (m - 1) 0)) with
      | true => exact ⟨a1, by omega, hp, a3⟩
      | false =>
        (dsimp only; rw [if_neg (by simp)])
        -- all of the run are equal
        have heq : ∀ x, 0 ≤ x → x < m → k (p.getD x 0) = k (p.getD (m - 1) 0) := fun x _ hx =>
          KeyOrd.kle_antisymm (a3 x (m - 1) (by omega) (by omega)) (KeyOrd.kle_trans hc (a3 0 x (by omega) hx))
        have hD : Dn k p m := fun i j h1 h2 => by rw [heq i (by omega) (by omega), heq j (by omega) (by omega)]; exact KeyOrd.kle_refl _
        have tn := hD.turn (i := 0) (by rw [hp.size]; omega) heq
        refine descPart_ (hp.rev 0 m) hn a1 (by omega) (Nat.le_refl _) (hD.congr tn) ?_
        rw [tn, tn]; exact hlt
    · have hm1 : m = 1 := by omega
      refine descPart_ hp hn a1 (by omega) (Nat.le_refl _) (fun i j h1 h2 => ?_) hlt
      have : i = j := by omega
      subst this; exact KeyOrd.kle_refl _

theorem place_ {p : Array Nat} {q : Nat} (hp : Pm n p) (hn : 0 < n) (hU : Up k p q) : ∀ (f l r : Nat), l ≤ r → r ≤ q → r ≤ l + f → (∀ i, i < l → O.kle (k (p.getD i 0)) (k (p.getD q 0))) →
    (∀ i, r ≤ i → i < q → O.kle (k (p.getD q 0)) (k (p.getD i 0))) →
    KT O n k (kas_place p q f l r) (fun l' => l' ≤ q ∧ (∀ i, i < l' → O.kle (k (p.getD i 0)) (k (p.getD q 0))) ∧ (∀ i, l' ≤ i → i < q → O.kle (k (p.getD q 0)) (k (p.getD i 0))))
  | 0, l, r, h1, h2, h3, ha, hb => ⟨by omega, ha, fun i hi => hb i (by omega)⟩
  | f + 1, l, r, h1, h2, h3, ha, hb => by
    unfold kas_place
    split
    · exact ⟨by omega, ha, fun i hi => hb i (by omega)⟩
    · rename_i hlr
      refine ⟨hp.lt hn _, hp.lt hn _, ?_⟩
      cases hc : O.blt (k (p.getD q 0)) (k (p.getD ((l + r) / 2) 0)) with
      | true =>
        (dsimp only; rw [if_pos rfl])
        exact place_ hp hn hU f l ((l + r) / 2) (by omega) (by omega) (by omega) ha fun i hi hq => KeyOrd.kle_trans (blt_le hc) (hU _ _ hi hq)
      | false =>
        (dsimp only; rw [if_neg (by simp)])
        exact place_ hp hn hU f ((l + r) / 2 + 1) r (by omega) h2 (by omega) (fun i hi => KeyOrd.kle_trans (hU i ((l + r) / 2) (by omega) (by omega)) hc) hb

theorem bin_ (hn : 0 < n) : ∀ (f : Nat) (p : Array Nat) (q : Nat), Pm n p → q + f ≤ n → Up k p q → KT O n k (kas_bin f p q) (fun p' => Pm n p' ∧ Up k p' (q + f))
  | 0, p, q, hp, h1, hU => ⟨hp, hU⟩
  | f + 1, p, q, hp, h1, hU => by
    unfold kas_bin
    refine KT.bind _ (KT.mono ?_ _ (place_ hp hn hU q 0 q (Nat.zero_le _) (Nat.le_refl _) (by omega) (fun i hi => by omega) (fun i hi hq => by omega)))
    rintro l ⟨a1, a2, a3⟩
    have hsz := hp.size
    refine KT.mono ?_ _ (bin_ hn f (bubble p q (q - l)) (q + 1) (hp.bub _ _) (by omega) fun i j hij hj => ?_)
    · rintro p' ⟨b1, b2⟩
      exact ⟨b1, by rw [show q + (f + 1) = q + 1 + f by omega]; exact b2⟩
    · rw [getD_bub (by omega) (by omega), getD_bub (by omega) (by omega), show q - (q - l) = l by omega]
      by_cases hi : i = l
      · rw [if_pos hi]
        by_cases hj' : j = l
        · rw [if_pos hj']; exact KeyOrd.kle_refl _
        · rw [if_neg hj', if_pos (by omega)]
          exact a3 _ (by omega) (by omega)
      · rw [if_neg hi]
        by_cases hj' : j = l
        · rw [if_pos hj', if_neg (by omega)]
          exact a2 i (by omega)
        · rw [if_neg hj']
          by_cases hil : l < i ∧ i ≤ q
          · rw [if_pos hil, if_pos (by omega)]; exact hU _ _ (by omega) (by omega)
          · rw [if_neg hil]
            by_cases hjl : l < j ∧ j ≤ q
            · rw [if_pos hjl]; exact hU _ _ (by omega) (by omega)
            · rw [if_neg hjl]; exact hU _ _ hij (by omega)

theorem sort_ (hn : 0 < n) : KT O n k (kas_sort n) (fun p => Pm n p ∧ Up k p n) := by
  refine KT.bind _ (KT.mono ?_ _ (count_ (p := List.toArray (List.range n)) (by unfold Pm; simp) hn))
  rintro ⟨m, p⟩ ⟨a1, a2, a3, a4⟩
  dsimp only at a1 a2 a3 a4 ⊢
  split
  · rename_i h
    rw [show max m 1 = m by omega]
    refine KT.mono ?_ _ (bin_ hn (n - m) p m a3 (by omega) a4)
    rintro p' ⟨b1, b2⟩
    exact ⟨b1, by rw [show n = m + (n - m) by omega]; exact b2⟩
  · have : m = n := by omega
    subst this; exact ⟨a3, a4⟩
end
end Mine
end

section
open PySem PySem.W PyProof.Rows
namespace Mine
open PySem.Calls

section
variable {prog : Program} {w : World} {A : Around} {E : Value → Shared → Prop} {s : Shared}

theorem oneLt_items {l b : Addr} {x y : Str × Int} {Q : Bool → Shared → Prop} (hl : ItemAt s.heap l x) (hb : ItemAt s.heap b y) (hu : A.units < cLine)
    (h : Q (itLt x y) s) : wpAny (model prog w) A (oneLt' true (.ref l) (.ref b)) Q E s := by
  obtain ⟨t, u, ⟨cls, dd, data, sl⟩, ho, hc, n, hd⟩ := hl
  obtain ⟨t2, u2, ⟨cls2, dd2, data2, sl2⟩, ho2, hc2, n2, hd2⟩ := hb
  simp only at hc hd hc2 hd2
  subst hc hd hc2 hd2
  rw [oneLt'_eq]
  simp only [if_true]
  refine wpAny_bind (wpAny_cRoomFor hu ?_)
  refine wpAny_bind (wpAny_callSpecialIfBound?_slot (T := "list") ⟨_, ho, rfl⟩ PySem.F.slot_list_lt (call_meets PySem.F.slot_list_lt ⟨_, ho, rfl⟩ PySem.F.entry_list_lt (PySem.F.args_list_lt_2 _ _)
    (list_lt0 l b _ _ x.1 y.1 x.2 y.2 t t2 u u2 n n2 dd dd2 sl sl2 rfl rfl rfl rfl rfl rfl) ⟨ho, ho2, ?_⟩))
  exact wpAny_truthy_bool h

theorem kt_wp {κ : SortKind} {vs : List Value} {n : Nat} {O : KeyOrd} {k : Nat → O.α} (hc : ∀ i j, i < n → j < n → ∀ C : Bool → Shared → Prop, C (O.blt (k i) (k j)) s → kas_ask prog w A κ vs i j C s) {α : Type} {Q : α → Prop} :
    ∀ (t : KasT α), KT O n k t Q → t.kasWp (kas_ask prog w A κ vs) (fun a s' => s' = s ∧ Q a) s
  | .ret _, h => ⟨rfl, h⟩
  | .ask i j f, ⟨h1, h2, h3⟩ => hc i j h1 h2 _ (kt_wp hc (f _) h3)

theorem list_sort_items {a : Addr} {as : Array Addr} {key : Addr → Str × Int} {n : Nat} {P : Fin → Shared → Prop} (ho : s.heap.get? a = some (seqObj "list" (as.map Value.ref) n))
    (hne : ∀ x ∈ as, x ≠ a) (hit : ∀ x ∈ as, ItemAt s.heap x (key x)) (h2 : 2 ≤ as.size) (h64 : as.size < 64) (hu : A.units < cLine)
    (h : ∀ p : Array Nat, Pm as.size p → Up (O := itOrd) (fun i => key (fAt as i)) p as.size → P (.done (.ret .none)) { s with heap := sortedHeap s.heap a (as.map Value.ref).toList ((p.map (fAt as)).map Value.ref) }) :
    wpAny (model prog w) A (Builtin.«list.sort» ⟨[.ref a], []⟩) P E s := by
  rw [list_sort_plain]
  have ha : a < s.heap.objs.size := Heap.lt_size ho
  have hvs : (as.map Value.ref).toList.toArray = as.map Value.ref := Array.toArray_toList
  have hlen : (as.map Value.ref).toList.length = as.size := by simp
  generalize hV : (as.map Value.ref).toList = vs at *
  rw [← hvs] at ho
  refine wpAny_bind (listItems_at ho rfl ?_)
  refine wpAny_bind (listUpdate_at ho rfl ?_ (by rw [List.size_toArray, sizeLine_eq]; omega) (Nat.zero_le _))
  obtain ⟨e1, ho1⟩ : ∃ e1, (s.heap.update a (Obj.mapSeq fun _ => #[])).get? a = some (seqObj "list" #[] e1) := ⟨_, get?_update_seq ho (fun _ => #[])⟩
  refine wpAny_bind (seqEpoch_at ho1 rfl ?_)
  refine wpAny_bind (wpAny_newTuple ?_ (by show vs.length ≤ _; rw [sizeLine_eq]; omega))
  refine wpAny_bind (wpAny_newList ?_ (Nat.zero_le _))
  refine wpAny_holding ?_
  have ho6 : (((s.heap.update a (Obj.mapSeq fun _ => #[])).push (seqObj "tuple" vs.toArray 0)).push (seqObj "list" #[] 0)).get? a = some (seqObj "list" #[] e1) := by
    rw [Heap.get?_push_ne _ _ _ (by rw [size_push', Heap.size_update]; exact Nat.ne_of_lt (Nat.lt_succ_of_lt ha)), Heap.get?_push_ne _ _ _ (by rw [Heap.size_update]; exact Nat.ne_of_lt ha)]
    exact ho1
  have k6 : Ext (One a) s.heap (((s.heap.update a (Obj.mapSeq fun _ => #[])).push (seqObj "tuple" vs.toArray 0)).push (seqObj "list" #[] 0)) := fun b o hb e =>
    Heap.get?_push_of_some _ (Heap.get?_push_of_some _ ((Heap.get?_update_other _ _ (Ne.symm hb)).trans e))
  show wpAny (model prog w) A _ P E { s with heap := ((s.heap.update a (Obj.mapSeq fun _ => #[])).push (seqObj "tuple" vs.toArray 0)).push (seqObj "list" #[] 0) }
  dsimp only
  have hn2 : ¬ vs.toArray.size < 2 := by rw [List.size_toArray]; omega
  rw [if_neg hn2, if_neg hn2]
  have at' : ∀ i, i < as.size → vs.getD i Value.none = .ref (fAt as i) := fun i hi => by
    rw [← hV]; simp [fAt, hi]
  refine wpAny_bind (kas_kind (T := Value.type "list") (by omega) (fun v hv => ?_) (by decide) (by decide) ?_)
  · rw [← hV] at hv
    simp only [Array.toList_map, List.mem_map, Array.mem_toList_iff] at hv
    obtain ⟨x, hx, rfl⟩ := hv
    obtain ⟨t, u, ol, hol, hcl, _⟩ := (hit x hx).ext k6 (hne x hx)
    intro A' Q' E' s' k' q'
    exact wpAny_typeOf (T := "list") ⟨ol, k' _ _ hol, hcl⟩ q'
  have est : SortSt.mk' oneType' (vs.toArray.zip vs.toArray) #[] 7 none = kas_st oneType' (pairsOf vs) (List.toArray (List.range vs.length)) := by
    have e := kas_range (pairsOf vs)
    rw [pairsOf_size] at e
    show SortSt.mk' oneType' (pairsOf vs) #[] 7 none = SortSt.mk' oneType' ((List.toArray (List.range vs.length)).map (kas_item (pairsOf vs))) #[] 7 none
    rw [e]
  have ask := kt_wp (prog := prog) (w := w) (A := A) (κ := oneType') (vs := vs) (n := as.size) (O := itOrd) (k := fun i => key (fAt as i))
    (s := { s with heap := ((s.heap.update a (Obj.mapSeq fun _ => #[])).push (seqObj "tuple" vs.toArray 0)).push (seqObj "list" #[] 0) })
    (fun i j hi hj C hC => by
      unfold kas_ask
      rw [at' i hi, at' j hj, keyLt'_oneType]
      exact oneLt_items ((hit _ (fAt_mem hi)).ext k6 (hne _ (fAt_mem hi))) ((hit _ (fAt_mem hj)).ext k6 (hne _ (fAt_mem hj))) hu hC) (kas_sort as.size) (sort_ (by omega))
  rw [kas_ask_eq] at ask
  have run := kas_runs (E := E) (Q := fun _ st' s' => ∃ p : Array Nat, arrOf st' = p.map (kas_item (pairsOf vs)) ∧ failedOf st' = none ∧ s' = { s with heap := ((s.heap.update a (Obj.mapSeq fun _ => #[])).push (seqObj "tuple" vs.toArray 0)).push (seqObj "list" #[] 0) } ∧
      Pm as.size p ∧ Up (O := itOrd) (fun i => key (fAt as i)) p as.size)
    h2 h64 (fun p' st' s' a1 a2 a3 a4 => ⟨p', a2, a3, a4.1, a4.2⟩) ask
  have est' : SortSt.mk' oneType' (vs.toArray.zip vs.toArray) #[] 7 none = kas_st oneType' (pairsOf vs) (List.toArray (List.range as.size)) := by rw [est, hlen]
  rw [← est'] at run
  refine wpAny_bind (wpAny_mono run ?_ fun _ _ e => e)
  rintro ⟨⟨⟩, st'⟩ s' ⟨p, har, hf, rfl, hP, hU⟩
  dsimp only
  have hout : (arrOf st').map (·.2) = (p.map (fAt as)).map Value.ref := by
    apply Array.toList_inj.mp
    rw [har, Array.map_map, Array.map_map, Array.toList_map, Array.toList_map]
    refine List.map_congr_left fun i hi => ?_
    show (kas_item (pairsOf vs) i).2 = _
    rw [kas_item_eq]
    exact at' i (List.mem_range.mp (hP.mem_iff.mp hi))
  rw [hout]
  refine wpAny_bind (seqEpoch_at ho6 rfl ?_)
  refine wpAny_bind (listUpdate_at ho6 rfl ?_ (Nat.zero_le _) (by rw [Array.size_map, Array.size_map, hP.size, sizeLine_eq]; omega))
  rw [hf]
  simp only [bne_self_eq_false, Bool.false_eq_true, if_false]
  exact wpAny_pure (h p hP hU)

/-- sorted(l), l a list of items -/
theorem sortedI {h : Heap} {tk : Nat} {l : Addr} {as : Array Addr} {key : Addr → Str × Int} {Q : Value → Shared → Prop} (hl : h.IsList l (as.map Value.ref)) (hit : ∀ x ∈ as, ItemAt h x (key x)) (h2 : 2 ≤ as.size) (h64 : as.size < 64)
    (hu : A.units + 2 < cLine)
    (hq : ∀ (h' : Heap) (D : Addr) (bs : Array Addr), h'.PlainList D (bs.map Value.ref) → bs.Perm as → bs.toList.Pairwise (kle key) → Ext None h h' → h.objs.size ≤ D → Q (.ref D) (st s h' tk)) :
    wpAny (model prog w) A (call (.builtin "sorted") [.ref l]) Q E (st s h tk) := by
  have hvs : (as.map Value.ref).toList.toArray = as.map Value.ref := Array.toArray_toList
  have hlen : (as.map Value.ref).toList.length = as.size := by simp
  refine Calls.call_function_entry kind_sorted plain_sorted entry_sorted (args_sorted1 _) ?_
  unfold Builtin.«sorted»
  refine wpAny_bind (m := checkCount "sorted" 1 1 _) (wpAny_pure ?_)
  refine wpAny_bind (collect_list (s := st s h tk) (vs := (as.map Value.ref).toList) (by rw [hvs]; exact hl) ?_ (by rw [hlen, sizeLine_eq]; omega))
  refine wpAny_bind (wpAny_newList ?_ (by rw [hlen, sizeLine_eq]; omega))
  have hsz : ((h.push (seqObj "list" #[] 0)).update h.objs.size (Obj.mapSeq (· ++ (as.map Value.ref).toList.toArray))).objs.size = h.objs.size + 1 := by
    rw [Heap.size_update, size_push']
  have hoL : (((h.push (seqObj "list" #[] 0)).update h.objs.size (Obj.mapSeq (· ++ (as.map Value.ref).toList.toArray))).push (seqObj "list" (as.map Value.ref).toList.toArray 0)).get? (h.objs.size + 1) = some (seqObj "list" (as.map Value.ref) 0) := by
    rw [← hsz, hvs]; exact Heap.get?_push_size _ rfl
  have keep : Ext None h (((h.push (seqObj "list" #[] 0)).update h.objs.size (Obj.mapSeq (· ++ (as.map Value.ref).toList.toArray))).push (seqObj "list" (as.map Value.ref).toList.toArray 0)) := fun b o _ q => by
    have hlt : b < h.objs.size := Heap.lt_size q
    rw [Heap.get?_push_ne _ _ _ (by rw [hsz]; exact Nat.ne_of_lt (Nat.lt_succ_of_lt hlt)), Heap.get?_update_ne _ _ _ _ (Nat.ne_of_lt hlt), Heap.get?_push_ne _ _ _ (Nat.ne_of_lt hlt)]
    exact q
  show wpAny _ _ _ _ _ (st s (((h.push (seqObj "list" #[] 0)).update h.objs.size (Obj.mapSeq (· ++ (as.map Value.ref).toList.toArray))).push (seqObj "list" (as.map Value.ref).toList.toArray 0)) tk)
  rw [show ((st s h tk).heap.push (seqObj "list" #[] 0)).update (st s h tk).heap.objs.size (Obj.mapSeq (· ++ (as.map Value.ref).toList.toArray)) = (h.push (seqObj "list" #[] 0)).update h.objs.size (Obj.mapSeq (· ++ (as.map Value.ref).toList.toArray)) from rfl, hsz]
  refine wpAny_bind (wpAny_holding (wpAny_call_entry slot_list_sort ⟨_, hoL, rfl⟩ entry_list_sort (list_sort_items (as := as) (key := key) hoL (fun x hx e => ?_) (fun x hx => (hit x hx).ext keep id) h2 h64 (by show A.units + 1 + 1 < _; omega) fun p hP hU => ⟨_, rfl, ?_⟩) (args_list_sort _)))
  · obtain ⟨_, _, o, ho, _⟩ := hit x hx
    have hx' : x < h.objs.size := Heap.lt_size ho
    rw [e] at hx'
    exact absurd hx' (Nat.not_lt.mpr (Nat.le_succ _))
  refine wpAny_pure ⟨_, rfl, ?_⟩
  obtain ⟨e, hAt⟩ := sortedAll_at h (as.map Value.ref).toList ((p.map (fAt as)).map Value.ref)
  refine hq (sortedAll h (as.map Value.ref).toList ((p.map (fAt as)).map Value.ref)) _ (p.map (fAt as)) ⟨e, hAt⟩ ?_ ?_ (fun b o _ q => sortedAll_old q) (Nat.le_succ _)
  · have h1 : (p.map (fAt as)).toList.Perm ((List.range as.size).map (fAt as)) := by rw [Array.toList_map]; exact List.Perm.map _ hP
    have h2 : (List.range as.size).map (fAt as) = as.toList := by
      apply List.ext_getElem?
      intro i
      by_cases hi : i < as.size
      · simp [hi, fAt]
      · simp [hi]
    rw [h2] at h1
    exact Array.perm_iff_toList_perm.mpr h1
  · rw [Array.toList_map, List.pairwise_map, List.pairwise_iff_getElem]
    intro i j hi hj hij
    have := hU i j (by omega) (by rw [← hP.size]; simpa using hj)
    rw [show p.getD i 0 = p.toList[i] by simp [Array.getD, show i < p.size by simpa using hi], show p.getD j 0 = p.toList[j] by simp [Array.getD, show j < p.size by simpa using hj]] at this
    exact this
end
end Mine
end

section
open PySem PySem.W PyProof.Rows
namespace Mine
open PySem.Calls

/-! ## comprehensions, by an invariant over the heap -/
section
variable {prog : Program} {w : World} {A : Around} {E : Value → Shared → Prop} {s : Shared} {env : Env}

/-- what a comprehension's turns must do -/
structure Turns (prog : Program) (w : World) (A : Around) (s : Shared) (env : Env) (scope : Scope) (cl : List (Str × Addr)) (x : Str) (ifs : List Expr) (elt : Expr) (h₂ : Heap) (fp wr : List Addr) (n : Nat) (P : Nat → Value → Prop) (D C : Addr)
    (X : Addr → Prop) (J : Nat → Array Value → Heap → Prop) : Prop where
  hX : ∀ b, X b → b < h₂.objs.size ∧ b ∉ fp
  start : ∀ h₃, Ext None h₂ h₃ → J 0 #[] h₃
  size : ∀ i ys h, J i ys h → ys.size ≤ i
  stable : ∀ i ys h h', J i ys h → Ext (fun b => b = C ∨ b = D ∨ b ∈ wr) h h' → J i ys h'
  turn : ∀ i v ys h tk m E', i < n → P i v → J i ys h → h.Ns C m → m x = some v →
    wpAny (model prog w) A (forIn ifs true fun c r => if r = true then do let ok ← isTrue c (compEnvC scope cl C env) (eval c (compEnvC scope cl C env)); pure (ForInStep.yield ok) else pure (ForInStep.yield r))
      (fun ok s₃ => ∃ h₃ tk₃, s₃ = st s h₃ tk₃ ∧ Ext X h h₃ ∧ (ok = false → J (i + 1) ys h₃) ∧
        (ok = true → wpAny (model prog w) A (eval elt (compEnvC scope cl C env)) (fun y s₄ => ∃ h₄ tk₄, s₄ = st s h₄ tk₄ ∧ Ext X h₃ h₄ ∧ J (i + 1) (ys.push y) h₄) E' s₃)) E' (st s h tk)

theorem compLoopJ {elt iter : Expr} {x : Str} {px : Pos} {ifs : List Expr} {scope : Scope} {cl : List (Str × Addr)} {pos : Pos} {I D C : Addr} {fp wr : List Addr} {n : Nat} {P : Nat → Value → Prop} {St : Nat → Heap → Prop} {h₂ h₃ : Heap} {tk₃ : Nat} {m₀ : Str → Option Value}
    {X : Addr → Prop} {J : Nat → Array Value → Heap → Prop} {R : Result → Shared → Prop}
    (W : Walks prog w A I fp wr n P St) (hn : n ≤ 2 ^ 20) (hkind : scope.kind = .function) (hx : scope.names.lookup x = some .local)
    (T : Turns prog w A s env scope cl x ifs elt h₂ fp wr n P D C X J) (hD : h₂.objs.size ≤ D) (hDC : D < C) (hfp : ∀ b ∈ fp, b < h₂.objs.size)
    (hst : St 0 h₃) (k₃ : Ext None h₂ h₃) (hacc : h₃.PlainList D #[]) (hns : h₃.Ns C m₀)
    (hR : ∀ h' tk' m' ys, h'.Ns C m' → h'.PlainList D ys → J n ys h' → R (.ok .next) (st s h' tk')) :
    codeAny (model prog w) A (.compLoop (.ListComp elt [⟨.Name x px, iter, ifs, 0⟩] scope pos) 0 (.ref I) (.ref D) (compEnvC scope cl C env)) R (st s h₃ tk₃) := by
  have hDf : D ∉ fp := fun hm => Nat.lt_irrefl _ (Nat.lt_of_lt_of_le (hfp _ hm) hD)
  have hCf : C ∉ fp := fun hm => Nat.lt_irrefl _ (Nat.lt_trans (Nat.lt_of_lt_of_le (hfp _ hm) hD) hDC)
  have hDw : D ∉ wr := fun hm => hDf (W.sub _ hm)
  have hCw : C ∉ wr := fun hm => hCf (W.sub _ hm)
  have hXD : ¬ X D := fun q => Nat.lt_irrefl _ (Nat.lt_of_lt_of_le (T.hX D q).1 hD)
  have hXC : ¬ X C := fun q => Nat.lt_irrefl _ (Nat.lt_trans (Nat.lt_of_lt_of_le (T.hX C q).1 hD) hDC)
  refine codeAny_compLoop_tests (fun k s' => ∃ h' tk' m' ys i, s' = st s h' tk' ∧ St i h' ∧ h'.PlainList D ys ∧ h'.Ns C m' ∧ J i ys h' ∧ i ≤ n ∧ k = n + 1 - i) ?_ (n + 1)
    ⟨h₃, tk₃, m₀, #[], 0, rfl, hst, hacc, hns, T.start h₃ k₃, Nat.zero_le _, rfl⟩
  rintro k s' ⟨H, tk, m', ys, i, rfl, hst', hacc', hn', hJ, hi, rfl⟩
  by_cases hlt : i < n
  · refine W.item i (st s H tk) _ _ hlt hst' fun v h₁ tk₁ hPv hst₁ hk₁ => ?_
    have e₁ : Ext (fun b => b = C ∨ b = D ∨ b ∈ wr) H h₁ := fun b o hb e => hk₁ b o (fun q => hb (.inr (.inr q))) e
    have hacc₁ : h₁.PlainList D ys := hacc'.at fun o e => hk₁ _ o hDw e
    refine wpAny_assign_Name (wpAny_storeName_local (s := st s h₁ tk₁) (lookup_relabel_local hx) (hn'.at' fun o e => hk₁ _ o hCw e) (fun h₂' hn₂ hs₂ => ?_) (by simp [compEnvC, relabel, hkind]))
    have e₂ : Ext (fun b => b = C ∨ b = D ∨ b ∈ wr) h₁ h₂' := fun b o hb e => hs₂.extBut b o (fun q => hb (.inl q)) e
    have hst₂ : St (i + 1) h₂' := W.frame _ _ _ hst₁ fun b hb o e => hs₂.extBut b o (fun h => hCf ((show b = C from h) ▸ hb)) e
    have hacc₂ : h₂'.PlainList D ys := hacc₁.extBut hs₂.extBut (Nat.ne_of_lt hDC)
    refine wpAny_mono (T.turn i v ys h₂' (tk₁ + 1) _ _ hlt hPv (T.stable _ _ _ _ hJ (e₁.trans e₂)) hn₂ (by simp)) (fun ok s₃ h₃ => ?_) fun _ _ e => e
    obtain ⟨h₃, tk₃, rfl, k₃, hno, hyes⟩ := h₃
    have hst₃ : St (i + 1) h₃ := W.frame _ _ _ hst₂ fun b hb o e => k₃ b o (fun q => (T.hX b q).2 hb) e
    have hacc₃ : h₃.PlainList D ys := PlainList.ext hacc₂ k₃ hXD
    have hn₃ := hn₂.at' fun o e => k₃ _ o hXC e
    cases ok with
    | false =>
      simp only [Bool.false_eq_true, if_false]
      exact ⟨n + 1 - (i + 1), by omega, h₃, tk₃, _, ys, i + 1, rfl, hst₃, hacc₃, hn₃, hno rfl, by omega, rfl⟩
    | true =>
      simp only [if_true]
      refine wpAny_mono (hyes rfl) (fun y s₄ h₄ => ?_) fun _ _ e => e
      obtain ⟨h₄, tk₄, rfl, k₄, hJ₄⟩ := h₄
      have hst₄ : St (i + 1) h₄ := W.frame _ _ _ hst₃ fun b hb o e => k₄ b o (fun q => (T.hX b q).2 hb) e
      have hsz := T.size _ _ _ hJ
      refine wpAny_list_append_plain (s := st s h₄ tk₄) (hsz := by rw [sizeLine_eq]; omega) (PlainList.ext hacc₃ k₄ hXD) fun h₅ hl₅ hs₅ => ?_
      refine ⟨n + 1 - (i + 1), by omega, h₅, tk₄, _, ys.push y, i + 1, rfl, W.frame _ _ _ hst₄ fun b hb o e => hs₅.extBut b o (fun h => hDf (h ▸ hb)) e, hl₅, (hn₃.at' fun o e => k₄ _ o hXC e).sameBut hs₅ (Ne.symm (Nat.ne_of_lt hDC)),
        T.stable _ _ _ _ hJ₄ fun b o hb e => hs₅.extBut b o (fun q => hb (.inr (.inl q))) e, by omega, rfl⟩
  · have hin : i = n := by omega
    subst hin
    refine W.done (st s H tk) _ _ hst' fun h₁ tk₁ hk₁ => ?_
    exact hR h₁ tk₁ m' ys (hn'.at' fun o e => hk₁ _ o hCw e) (hacc'.at fun o e => hk₁ _ o hDw e) (T.stable _ _ _ _ hJ fun b o hb e => hk₁ b o (fun q => hb (.inr (.inr q))) e)

theorem compJ {elt iter : Expr} {x : Str} {px : Pos} {ifs : List Expr} {scope : Scope} {cl : List (Str × Addr)} {pos : Pos} {Q : Value → Shared → Prop} {s₀ : Shared}
    (hclos : closureFor scope env = pure cl) (hcell : ∀ y ∈ scope.names, y.2 ≠ .cell) (hkind : scope.kind = .function)
    (hnames : ∀ y ∈ scope.names, y.2 = .local → scope.names.lookup y.1 = some .local) (hx : scope.names.lookup x = some .local)
    (h : wpAny (model prog w) A (eval iter env) (fun xv s₁ => wpAny (model prog w) A (pyIter xv) (fun it s₂ =>
      ∃ h₂ tk₂ I fp wr n P St, s₂ = st s h₂ tk₂ ∧ it = .ref I ∧ Walks prog w A I fp wr n P St ∧ n ≤ 2 ^ 20 ∧ St 0 h₂ ∧ (∀ b ∈ fp, b < h₂.objs.size) ∧
      ∀ D C, h₂.objs.size ≤ D → D < C → ∃ X J, Turns prog w A s env scope cl x ifs elt h₂ fp wr n P D C X J ∧
        ∀ h' tk' ys, J n ys h' → h'.PlainList D ys → Q (.ref D) (st s h' tk')) E s₁) E s₀)
    (hs : ∀ x, foldedSetIterable iter env x = pure x := by intro _; rfl) :
    wpAny (model prog w) A (eval (.ListComp elt [⟨.Name x px, iter, ifs, 0⟩] scope pos) env) Q E s₀ := by
  rw [eval_ListComp]
  refine wpAny_comprehension_free (use := none) rfl hs hclos hkind hnames (wpAny_mono h (fun xv s₁ h₁ => wpAny_mono h₁ (fun it s₂ h₂ => ?_) fun _ _ e => e) fun _ _ e => e)
  obtain ⟨h₂, tk₂, I, fp, wr, n, P, St, rfl, rfl, W, hn, hst, hfp, hT⟩ := h₂
  refine wpAny_newObj_type (wpAny_newFunctionEnv hcell (by intro y hy; simp at hy) (fun h₁ hns₁ hsb₁ => ?_) hkind)
  dsimp only at hns₁ hsb₁ ⊢
  generalize hH2 : (st s h₂ tk₂).heap.push { cls := .type "list", dict := none, data := .seq ([] : List Value).toArray } = H2 at hns₁ hsb₁ ⊢
  have hC : H2.objs.size = h₂.objs.size + 1 := by rw [← hH2, Heap.size_push]; rfl
  have hlt2 : h₂.objs.size < H2.objs.size := by rw [hC]; exact Nat.lt_succ_self _
  have old : Ext None h₂ h₁ := fun b o _ e => by
    have hlt := Heap.lt_size e
    refine hsb₁.extBut b o (Nat.ne_of_lt (Nat.lt_trans hlt hlt2)) (Heap.get?_push_of_some _ (hH2 ▸ Heap.get?_push_of_some _ e))
  have hacc : h₁.PlainList h₂.objs.size #[] := ⟨_, hsb₁.extBut _ _ (Nat.ne_of_lt hlt2) (Heap.get?_push_of_some _ (hH2 ▸ Heap.get?_push_size _ rfl))⟩
  have hst₁ : St 0 h₁ := W.frame _ _ _ hst fun b _ o e => old b o id e
  obtain ⟨X, J, T, hQ⟩ := hT h₂.objs.size H2.objs.size (Nat.le_refl _) hlt2
  have loop : codeAny (model prog w) A (.compLoop (.ListComp elt [⟨.Name x px, iter, ifs, 0⟩] scope pos) 0 (.ref I) (.ref h₂.objs.size) (compEnvC scope cl H2.objs.size env))
      (compPost (model prog w) A E none Q (.ref h₂.objs.size) H2.objs.size) (st s h₁ (tk₂ + 0)) := by
    refine compLoopJ W hn hkind hx T (Nat.le_refl _) hlt2 hfp hst₁ old hacc hns₁ fun h' tk' m' ys hn' hl' hJ' => ?_
    refine ⟨m', hn', fun h'' hs'' => hQ h'' tk' ys (T.stable _ _ _ _ hJ' fun b o hb e => hs''.extBut b o (fun q => hb (.inl q)) e) (hl'.extBut hs''.extBut (Nat.ne_of_lt hlt2))⟩
  exact codeAny_compStart_list loop (W.self 0 (st s h₁ (tk₂ + 0)) _ _ hst₁ loop)
end
end Mine
end

section
open PySem PySem.W PyProof.Rows
namespace Mine
open PySem.Calls

/-! ## frames with cells -/
def SubM : List (Str × Value) → (Str → Option Value) → Prop
  | [], _ => True
  | p :: r, m => m p.1 = some p.2 ∧ SubM r m
theorem SubM.lookup {m : Str → Option Value} : ∀ {vars : List (Str × Value)}, SubM vars m → ∀ x v, vars.lookup x = some v → m x = some v
  | [], _, _, _, e => by cases e
  | (y, u) :: r, h, x, v, e => by
    rw [List.lookup_cons] at e
    cases hy : x == y with
    | true => rw [hy] at e; cases e; rw [eq_of_beq hy]; exact h.1
    | false => rw [hy] at e; exact SubM.lookup h.2 x v e

abbrev cellsOf (scope : Scope) (L : Addr) : List (Str × Addr) := cellsFrom (L + 1) scope.names []
/-- a frame's own places -/
def Pv (L : Addr) (cs : List (Str × Addr)) (b : Addr) : Prop := b = L ∨ ∃ n, cs.lookup n = some b

structure FmC (base : Heap) (X : Addr → Prop) (h₀ : Heap) (L : Addr) (cs : List (Str × Addr)) (h : Heap) (vars cv : List (Str × Value)) : Prop where
  fm : Fm base X h₀ L h vars
  cl : ∃ cm, Cl L cs h cm ∧ ∀ x v, cv.lookup x = some v → cm x = some v
  lt : ∀ b, X b → b < h₀.objs.size

namespace FmC
variable {base h₀ h h' : Heap} {X Y : Addr → Prop} {L : Addr} {cs : List (Str × Addr)} {vars cv : List (Str × Value)}
theorem based (F : FmC base X h₀ L cs h vars cv) : ∀ b o, base.get? b = some o → h.get? b = some o := F.fm.based
theorem above (F : FmC base X h₀ L cs h vars cv) {n : Str} {c : Addr} (hm : cs.lookup n = some c) : L < c := let ⟨_, C, _⟩ := F.cl; C.above n c (mem_of_lookup hm)
theorem old (F : FmC base X h₀ L cs h vars cv) {b : Addr} (hb : b < h₀.objs.size) : ¬ Pv L cs b := fun q => by
  rcases q with rfl | ⟨n, hm⟩
  · exact Nat.lt_irrefl _ (Nat.lt_of_lt_of_le hb F.fm.above)
  · exact Nat.lt_irrefl _ (Nat.lt_trans (F.above hm) (Nat.lt_of_lt_of_le hb F.fm.above))
theorem chg (F : FmC base X h₀ L cs h vars cv) (k : Ext Y h h') (hY : ∀ b, Y b → X b ∨ (h₀.objs.size ≤ b ∧ ¬ Pv L cs b)) : FmC base X h₀ L cs h' vars cv := by
  have hp : ∀ b, Pv L cs b → ¬ Y b := fun b hb q => by
    rcases hY b q with h1 | h1
    · exact F.old (F.lt b h1) hb
    · exact h1.2 hb
  obtain ⟨cm, C, hcm⟩ := F.cl
  refine ⟨⟨let ⟨m, hn, hm⟩ := F.fm.ns; ⟨m, hn.at' fun o e => k L o (hp L (.inl rfl)) e, hm⟩, fun b o hb e => k b o (fun q => ?_) (F.fm.keep b o hb e), F.fm.above, F.fm.base₀, F.fm.hX, F.fm.hXL⟩,
    ⟨cm, ⟨fun n c e => let ⟨o, ho, hd⟩ := C.cell n c e; ⟨o, k c o (hp c (.inr ⟨n, e⟩)) ho, hd⟩, C.apart, C.above⟩, hcm⟩, F.lt⟩
  rcases hY b q with h1 | h1
  · exact hb h1
  · exact Nat.lt_irrefl _ (Nat.lt_of_lt_of_le (Heap.lt_size e) h1.1)
theorem kept (F : FmC base X h₀ L cs h vars cv) (k : Ext None h h') : FmC base X h₀ L cs h' vars cv := F.chg k fun _ q => q.elim
theorem ext (F : FmC base X h₀ L cs h vars cv) (k : Ext X h h') : FmC base X h₀ L cs h' vars cv := F.chg k fun _ q => .inl q
/-- a new object is not one of the frame's own -/
theorem new (F : FmC base X h₀ L cs h vars cv) {I : Addr} (hI : h.objs.size ≤ I) : h₀.objs.size ≤ I ∧ ¬ Pv L cs I := by
  refine ⟨(F.fm.new hI).1, fun q => ?_⟩
  rcases q with rfl | ⟨n, hm⟩
  · exact (F.fm.new hI).2 rfl
  · obtain ⟨cm, C, _⟩ := F.cl
    exact Nat.lt_irrefl _ (Nat.lt_of_lt_of_le (C.cell n I hm).lt hI)
theorem sub {vars' cv' : List (Str × Value)} (F : FmC base X h₀ L cs h vars cv) (hv : Sub vars' vars) (hc : Sub cv' cv) : FmC base X h₀ L cs h vars' cv' :=
  ⟨F.fm.sub hv, let ⟨cm, C, hcm⟩ := F.cl; ⟨cm, C, fun x v e => hcm x v (hc.lookup x v e)⟩, F.lt⟩
theorem isCell (F : FmC base X h₀ L cs h vars cv) {x : Str} {v : Value} {c : Addr} (hv : cv.lookup x = some v) (hc : cs.lookup x = some c) : h.IsCell c (some v) :=
  let ⟨_, C, hcm⟩ := F.cl; hcm x v hv ▸ C.cell x c hc
end FmC

section
variable {prog : Program} {w : World} {A : Around} {E : Value → Shared → Prop} {s : Shared} {h : Heap} {tk : Nat} {name : Str} {scope : Scope} {L a : Addr} {cd : Value} {base h₀ : Heap} {X : Addr → Prop} {vars cv : List (Str × Value)} {mg mb : Str → Option Value} {env : Env}

/-- a name that lies in a cell, in any frame -/
theorem ldCell {x : Str} {pos : Pos} {c : Addr} {v : Value} {Q : Value → Shared → Prop} (hv : h.IsCell c (some v)) (hq : Q v (st s h tk)) (hc : env.cells.lookup x = some c := by rfl)
    (hk : env.scope.kind = .function := by rfl) (hl : env.kindOf x = some .cell := by rfl) (hd : (x == ("__debug__" : Str)) = false := by decide) :
    wpAny (model prog w) A (eval (.Name x pos) env) Q E (st s h tk) := wpAny_Name (wpAny_loadName_cell (s := st s h tk) hk hl hc hv hq) hd

/-- a local name, in any frame -/
theorem ldLoc' {x : Str} {pos : Pos} {m : Str → Option Value} {v : Value} {Q : Value → Shared → Prop} (hn : h.Ns env.locals m) (hv : m x = some v) (hq : Q v (st s h tk))
    (hk : env.scope.kind = .function := by rfl) (hl : env.kindOf x = some .local := by rfl) (hd : (x == ("__debug__" : Str)) = false := by decide) :
    wpAny (model prog w) A (eval (.Name x pos) env) Q E (st s h tk) := wpAny_Name (wpAny_loadName_local (s := st s h tk) hk hl hn hv hq) hd

theorem glG {d : DefRec} {pos : Pos} {Q : Value → Shared → Prop} (K : ∀ b o, base.get? b = some o → h.get? b = some o) (G : Gl mg mb base) (hd : d ∈ defs)
    (hq : ∀ a o pm code doc, mg d.name = some (.ref a) → base.get? a = some o → o.data = .func (docDef d.name d.params d.body d.scope pm code doc) → base.CodeRec code d.name → Q (.ref a) (st s h tk))
    (hg : env.globals = mainGlobals := by rfl)
    (hk : env.scope.kind = .function := by rfl) (hx : env.kindOf d.name = some .globalImplicit := by rfl)
    (hdb : (d.name == ("__debug__" : Str)) = false := by decide) : wpAny (model prog w) A (eval (.Name d.name pos) env) Q E (st s h tk) :=
  let ⟨a', o, pm, code, doc, h1, h2, h3, h4⟩ := G.fn d hd
  Name_function_global hk hx (loadGlobal_global (s := st s h tk) (env := env) (hg.symm ▸ G.g.keeps K) h1 (hq a' o pm code doc h1 h2 h3 h4)) hdb

theorem blG {x : Str} {v : Value} {pos : Pos} {Q : Value → Shared → Prop} (K : ∀ b o, base.get? b = some o → h.get? b = some o) (G : Gl mg mb base) (hx : x ∈ blts) (hv : bootBuiltins x = some v)
    (hq : Q v (st s h tk)) (hg : env.globals = mainGlobals := by rfl) (hb : env.builtins = builtinsNs := by rfl)
    (hk : env.scope.kind = .function := by rfl) (hx : env.kindOf x = some .globalImplicit := by rfl)
    (hdb : (x == ("__debug__" : Str)) = false := by decide) : wpAny (model prog w) A (eval (.Name x pos) env) Q E (st s h tk) :=
  Name_function_global hk hx (loadGlobal_builtin (s := st s h tk) (env := env) (hg.symm ▸ G.g.keeps K) (G.free x ‹_›).1 (hb.symm ▸ G.b.keeps K) ((G.free x ‹_›).2.trans hv) hq) hdb

theorem ldFC {x : Str} {pos : Pos} {v : Value} {Q : Value → Shared → Prop} (F : FmC base X h₀ L (cellsOf scope L) h vars cv) (hv : vars.lookup x = some v) (hq : Q v (st s h tk))
    (hk : scope.kind = .function := by rfl) (hl : (envOfC name scope L a cd).kindOf x = some .local := by rfl)
    (hd : (x == ("__debug__" : Str)) = false := by decide) :
    wpAny (model prog w) A (eval (.Name x pos) (envOfC name scope L a cd)) Q E (st s h tk) :=
  let ⟨_, hn, hm⟩ := F.fm.ns
  wpAny_Name (wpAny_loadName_local (s := st s h tk) hk hl hn (hm x v hv) hq) hd

theorem ldCC' {x : Str} {pos : Pos} {c : Addr} {v : Value} {Q : Value → Shared → Prop} (F : FmC base X h₀ L (cellsOf scope L) h vars cv) (hv : cv.lookup x = some v) (hq : Q v (st s h tk))
    (hc : (cellsOf scope L).lookup x = some c := by rfl) (hk : scope.kind = .function := by rfl) (hl : (envOfC name scope L a cd).kindOf x = some .cell := by rfl)
    (hd : (x == ("__debug__" : Str)) = false := by decide) :
    wpAny (model prog w) A (eval (.Name x pos) (envOfC name scope L a cd)) Q E (st s h tk) :=
  wpAny_Name (wpAny_loadName_cell (s := st s h tk) hk hl hc (F.isCell hv hc) hq) hd

theorem stFC {x : Str} {v : Value} {Q : Unit → Shared → Prop} (F : FmC base X h₀ L (cellsOf scope L) h vars cv)
    (hq : ∀ h' tk', FmC base X h₀ L (cellsOf scope L) h' (setV vars x v) cv → Ext (Pv L (cellsOf scope L)) h h' → Q () (st s h' tk'))
    (hk : scope.kind = .function := by rfl) (hl : (envOfC name scope L a cd).kindOf x = some .local := by rfl) :
    wpAny (model prog w) A (storeName (envOfC name scope L a cd) x v) Q E (st s h tk) := by
  obtain ⟨m, hn, hm⟩ := F.fm.ns
  obtain ⟨cm, C, hcm⟩ := F.cl
  exact wpAny_storeName_local (s := st s h tk) hl hn (fun h' hn' hs => hq h' _ ⟨F.fm.store hm hn' hs, ⟨cm, C.sameBut hs (Nat.le_refl _), hcm⟩, F.lt⟩ fun b o hb e => hs.extBut b o (fun q => hb (.inl q)) e)
    (by show (scope.kind == .class || (scope.kind == .module && L != mainGlobals)) = false; rw [hk]; rfl)

theorem stCC' {x : Str} {c : Addr} {v : Value} {Q : Unit → Shared → Prop} (F : FmC base X h₀ L (cellsOf scope L) h vars cv)
    (hq : ∀ h' tk', FmC base X h₀ L (cellsOf scope L) h' vars (setV cv x v) → Ext (Pv L (cellsOf scope L)) h h' → Q () (st s h' tk'))
    (hc : (cellsOf scope L).lookup x = some c := by rfl) (hk : scope.kind = .function := by rfl) (hl : (envOfC name scope L a cd).kindOf x = some .cell := by rfl) :
    wpAny (model prog w) A (storeName (envOfC name scope L a cd) x v) Q E (st s h tk) := by
  obtain ⟨cm, C, hcm⟩ := F.cl
  have hLc : L < c := F.above hc
  refine wpAny_storeName_cell (s := st s h tk) hk hl hc (C.cell x c hc) fun h' hv hs => hq h' _ ⟨?_, ⟨fun y => if y = x then some v else cm y, ⟨fun n c' e => ?_, C.apart, C.above⟩, fun y u e => ?_⟩, F.lt⟩ fun b o hb e => hs.extBut b o (fun q => hb (.inr ⟨x, q ▸ hc⟩)) e
  · exact F.fm.own (I := c) (sbExt hs) (Nat.le_of_lt (Nat.lt_of_le_of_lt F.fm.above hLc)) (Nat.ne_of_gt hLc)
  · by_cases hn : n = x
    · subst hn; rw [hc] at e; cases e; simpa using hv
    · have hcc : c' ≠ c := fun q => hn (name_of_addr C.apart (mem_of_lookup e) (q ▸ mem_of_lookup hc))
      simpa [hn] using (C.cell n c' e).sameBut hs hcc
  · unfold setV at e
    rw [List.lookup_cons] at e
    by_cases hy : y = x
    · subst hy; simp at e; subst e; simp
    · have : (y == x) = false := by simpa using hy
      rw [this] at e
      show (if y = x then some v else cm y) = some u
      rw [if_neg hy]; exact hcm y u (lookup_filter hy e)

/-- a call of a def with cells -/
theorem callC {d : DefRec} {f : Addr} {o : Obj} {pm cd doc : Value} {args : List Value} {R : Result → Shared → Prop} {binds : List (Str × Value)} (G : Gl mg mb base)
    (K : ∀ b o, base.get? b = some o → h.get? b = some o) (hX : ∀ b, X b → base.get? b = none) (hXlt : ∀ b, X b → b < h.objs.size)
    (hroom : A.depth < recursionLimit) (ho : base.get? f = some o) (hdata : o.data = .func (docDef d.name d.params d.body d.scope pm cd doc)) (hcd : base.CodeRec cd d.name)
    (hbind : bindArgs (docDef d.name d.params d.body d.scope pm cd doc) ⟨args, []⟩ = pure binds)
    (hkind : (binds.all fun y => d.scope.names.lookup y.1 == some .local || d.scope.names.lookup y.1 == some .cell) = true)
    (hv : ∀ L, SubM vars (bindL (envOfC d.name d.scope L f cd).kindOf binds fun _ => none)) (hc : ∀ L, SubM cv (bindC (envOfC d.name d.scope L f cd).kindOf binds fun _ => none))
    (hq : ∀ L h₁ tk', FmC base X h L (cellsOf d.scope L) h₁ vars cv → Ext None h h₁ →
      wpAny (model prog w) (A.deeper (envOfC d.name d.scope L f cd)) (execs d.body (envOfC d.name d.scope L f cd))
        (fun f s' => R (.ok (.ret (match f with | .ret v => v | _ => .none))) s') (fun _ _ => False)
        (st s h₁ tk'))
    (hco : d.scope.isCoroutine = false := by rfl) (hgen : d.scope.isGenerator = false := by rfl) (hk : d.scope.kind = .function := by rfl) :
    codeAny (model prog w) A (.call (.ref f) ⟨args, []⟩) R (st s h tk) :=
  call_cells_ret (s := st s h tk) hroom (K _ _ ho) hdata (G.nolimit.keeps K) (hcd.keeps K) hbind (kindsX hkind _)
    (fun h₁ tk' F C => hq h.objs.size h₁ tk' ⟨⟨⟨_, F.ns, (hv _).lookup⟩, fun b o _ e => F.keep b o e, F.above, K, hX, fun q => Nat.lt_irrefl _ (hXlt _ q)⟩, ⟨_, C, (hc _).lookup⟩, hXlt⟩ fun b o _ e => F.keep b o e) hco hgen hk
end
end Mine
end

section
open PySem PySem.W PyProof.Rows
namespace Mine
open PySem.Calls

section
variable {prog : Program} {w : World} {A : Around} {s : Shared} {h : Heap} {tk : Nat} {base : Heap} {mg mb : Str → Option Value} {key : Addr → Str × Int} {H : Addr} {xs : Array Addr}

theorem mem_set {xs : Array Addr} {p : Nat} {t a : Addr} (ha : a ∈ xs.setIfInBounds p t) : a = t ∨ a ∈ xs := by
  obtain ⟨i, e⟩ := Array.mem_iff_getElem?.mp ha
  rw [Array.getElem?_setIfInBounds] at e
  by_cases hpi : p = i
  · rw [if_pos hpi] at e
    split at e
    · exact .inl (Option.some.inj e).symm
    · cases e
  · rw [if_neg hpi] at e
    exact .inr (Array.mem_iff_getElem?.mpr ⟨i, e⟩)

theorem itemNum {h : Heap} {a : Addr} {x : Str × Int} (i : ItemAt h a x) : ∃ u items, h.IsList a items ∧ items[(1 : Int).toNat]? = some (.int x.2 u) := by
  obtain ⟨t, u, hl⟩ := i
  exact ⟨u, _, hl, rfl⟩

set_option maxHeartbeats 4000000 in
theorem mended_call {R : Result → Shared → Prop} {f : Addr} {o : Obj} {pm cd doc : Value} {t : Addr} {p : Nat} {down : Bool} (G : Gl mg mb base)
    (K : ∀ b o, base.get? b = some o → h.get? b = some o) (hH0 : base.get? H = none) (hp : HpAt h H xs key) (hn : xs.size < 2 ^ 20) (hpn : p < xs.size)
    (ht : ItemAt h t (key t)) (htH : t ≠ H) (hnum : ∀ i, i < xs.size → ((key (fAt xs i)).2 = (key t).2 ↔ i = p))
    (hheap : HeapFrom (kle key) xs.size 0 (fAt xs)) (hdown : down = true → kle key (fAt xs p) t) (hup : down = false → kle key t (fAt xs p))
    (ho : base.get? f = some o) (hdata : o.data = .func (docDef dMended.name dMended.params dMended.body dMended.scope pm cd doc)) (hcd : base.CodeRec cd dMended.name)
    (hroom : A.depth + 3 < recursionLimit) (hu : A.units + 80 < cLine) (hh : A.handled = none)
    (hq : ∀ h' tk' ys, HpAt h' H ys key → ys.Perm (xs.setIfInBounds p t) → HeapFrom (kle key) ys.size 0 (fAt ys) → Ext (One H) h h' → R (.ok (.ret .none)) (st s h' tk')) :
    codeAny (model prog w) A (.call (.ref f) ⟨[.ref H, .ref t, .bool down], []⟩) R (st s h tk) := by
  have hHlt : H < h.objs.size := by obtain ⟨_, e⟩ := hp.list; exact Heap.lt_size e
  have tr := kle_tr key
  have tot := kle_tot key
  refine callC (d := dMended) (X := One H) (binds := [(Str.ofString "heap", .ref H), (Str.ofString "thing", .ref t), (Str.ofString "down", .bool down)])
    (vars := [(Str.ofString "down", .bool down)]) (cv := [(Str.ofString "heap", .ref H), (Str.ofString "thing", .ref t)]) G K (by rintro b rfl; exact hH0) (by rintro b rfl; exact hHlt) (by omega) ho hdata hcd rfl rfl
    (fun _ => ⟨rfl, trivial⟩) (fun _ => ⟨rfl, rfl, trivial⟩) ?_
  intro L h₁ tk₁ F hE
  have hh' : (A.deeper (envOfC dMended.name dMended.scope L f cd)).handled = none := hh
  have lst₁ : h₁.PlainList H (xs.map Value.ref) := PlainList.ext hp.list hE id
  -- at = [..][0]
  refine wpAny_execs_cons (wpAny_Assign_Name (sub_list ?_))
  refine compJ (s := s) (cl := [(Str.ofString "thing", L + 2), (Str.ofString "heap", L + 1)]) rfl (by decide) rfl (by decide) rfl ?_
  refine Call_ (blG F.based G (by decide) boot_range (callWith_type1 (args_cons (Call_ (blG F.based G (by decide) boot_len (callWith_builtin1 (args_cons (ldCC' F rfl (args_nil (lenI lst₁.isList (by simp only [Array.size_map]; omega) fun _ _ => args_nil ?_))))))))))
  rw [Array.size_map]
  refine rng1 fun h₂ r _ _ _ hr k₂ _ => iterR (n := xs.size) hr (by omega) (by omega) (by omega) (by omega) (by omega) fun h₃ I hI k₃ hIn => ?_
  have F₃ := (F.kept k₂).kept k₃
  refine ⟨h₃, _, I, _, _, _, _, _, rfl, rfl, Walks.range hh' I 0 1 xs.size, by omega, by simpa using hI, by intro b hb; simp at hb; subst hb; exact Heap.lt_size hI, fun D C hD hDC => ?_⟩
  have nI := (F.kept k₂).new hIn
  have nD := F₃.new hD
  have nC := F₃.new (Nat.le_trans hD (Nat.le_of_lt hDC))
  have hY : ∀ b, (b = C ∨ b = D ∨ b ∈ [I]) → One H b ∨ (h.objs.size ≤ b ∧ ¬ Pv L (cellsOf dMended.scope L) b) := by
    rintro b (rfl | rfl | hb)
    · exact .inr nC
    · exact .inr nD
    · rw [List.mem_singleton.mp hb]; exact .inr nI
  have hHY : ¬ (H = C ∨ H = D ∨ H ∈ [I]) := by
    rintro (e | e | e)
    · exact Nat.lt_irrefl _ (Nat.lt_of_lt_of_le (e ▸ hHlt) nC.1)
    · exact Nat.lt_irrefl _ (Nat.lt_of_lt_of_le (e ▸ hHlt) nD.1)
    · exact Nat.lt_irrefl _ (Nat.lt_of_lt_of_le ((List.mem_singleton.mp e) ▸ hHlt) nI.1)
  have items : ∀ {hh : Heap} {vars cv : List (Str × Value)}, FmC base (One H) h L (cellsOf dMended.scope L) hh vars cv → ∀ a, a ∈ xs → ItemAt hh a (key a) := fun F' a ha => (hp.items a ha).ext F'.fm.keep (hp.ne a ha)
  have itemT : ∀ {hh : Heap} {vars cv : List (Str × Value)}, FmC base (One H) h L (cellsOf dMended.scope L) hh vars cv → ItemAt hh t (key t) := fun F' => ht.ext F'.fm.keep htH
  refine ⟨None, fun i ys hh => FmC base (One H) h L (cellsOf dMended.scope L) hh [(Str.ofString "down", .bool down)] [(Str.ofString "heap", .ref H), (Str.ofString "thing", .ref t)] ∧ hh.PlainList H (xs.map Value.ref) ∧ ys.size ≤ i ∧
    (i ≤ p → ys = #[]) ∧ (p < i → ∃ t', ys = #[.int p t']), ⟨fun _ q => q.elim, fun h₄ k₄ => ⟨F₃.kept k₄, PlainList.ext (PlainList.ext (PlainList.ext lst₁ k₂ id) k₃ id) k₄ id, Nat.le_refl _, fun _ => rfl, fun q => by omega⟩,
      fun i ys hh hJ => hJ.2.2.1, fun i ys hh hh' hJ k => ⟨hJ.1.chg k hY, PlainList.ext hJ.2.1 k hHY, hJ.2.2⟩, ?_⟩, ?_⟩
  · rintro i v ys hh tk m E' hi ⟨t', rfl⟩ ⟨FJ, lJ, hsz, hlo, hhi⟩ hns hm
    have e0 : (0 : Int) + (i : Int) * 1 = i := by omega
    rw [e0] at hm
    obtain ⟨u1, its1, hl1, hx1⟩ := itemNum (items FJ _ (fAt_mem hi))
    obtain ⟨u2, its2, hl2, hx2⟩ := itemNum (itemT FJ)
    refine wpAny_tests_one (wpAny_isTrue_Compare1 (sub_list (sub_list (ldCell (FJ.isCell (x := Str.ofString "heap") rfl rfl) (ldLoc' hns hm ⟨H, _, i, _, .ref (fAt xs i), rfl, rfl, lJ.isList, by omega, by omega, refs_get hi, ?_⟩)))))
    refine cI fun _ _ => ⟨_, _, 1, _, _, rfl, rfl, hl1, by omega, by omega, hx1, ?_⟩
    refine sub_list (ldCell (FJ.isCell (x := Str.ofString "thing") rfl rfl) (cI fun _ _ => ⟨_, _, 1, _, _, rfl, rfl, hl2, by omega, by omega, hx2, ?_⟩))
    refine eq_int (wpAny_truthy_bool ⟨hh, _, rfl, Ext.refl _ _, fun hno => ?_, fun hyes => ?_⟩)
    · have hne : i ≠ p := fun e => by
        have := (hnum i hi).mpr e
        rw [this] at hno; simp at hno
      exact ⟨FJ, lJ, by omega, fun q => hlo (by omega), fun q => hhi (by omega)⟩
    · have he : i = p := (hnum i hi).mp (by simpa using hyes)
      refine ldLoc' hns hm ⟨hh, _, rfl, Ext.refl _ _, FJ, lJ, by rw [Array.size_push]; omega, fun q => by omega, fun _ => ⟨t', ?_⟩⟩
      rw [hlo (by omega), he]; rfl
  · rintro h₅ tk₅ ys ⟨F₅, l₅, _, _, hys⟩ hD₅
    obtain ⟨t', rfl⟩ := hys hpn
    refine cI fun _ _ => ⟨D, _, 0, _, .int p t', rfl, rfl, hD₅.isList, by omega, by omega, rfl, ?_⟩
    refine stFC F₅ fun h₆ _ F₆ k₆ => ?_
    have l₆ := PlainList.ext l₅ k₆ (F₅.old hHlt)
    -- heap[at] = thing
    refine wpAny_execs_cons (wpAny_Assign_Subscript (ldCC' F₆ rfl (ldCC' F₆ rfl (ldFC F₆ rfl (setP l₆ (by omega) (by omega) (by simp only [Array.size_map]; omega) fun h₇ l₇ hs₇ => ?_)))))
    rw [show ((p : Int)).toNat = p by omega, map_set] at l₇
    have F₇ := F₆.ext (sbExt hs₇)
    have hz : (xs.setIfInBounds p t).size = xs.size := by rw [Array.size_setIfInBounds]
    have mem : ∀ a, a ∈ xs.setIfInBounds p t → a = t ∨ a ∈ xs := fun a ha => mem_set ha
    have hp₇ : HpAt h₇ H (xs.setIfInBounds p t) key := by
      refine ⟨l₇, fun a ha => ?_, fun a ha => ?_⟩
      · rcases mem a ha with rfl | ha
        · exact itemT F₇
        · exact items F₇ a ha
      · rcases mem a ha with rfl | ha
        · exact htH
        · exact hp.ne a ha
    have hat : fAt (xs.setIfInBounds p t) = upd (fAt xs) p t := fAt_set hpn
    refine wpAny_execs_cons (wpAny_Return_some (wpAny_IfExp (wpAny_isTrue_value (ldFC F₇ rfl (wpAny_truthy_bool ?_)))))
    cases down with
    | true =>
      refine Call_ (glG (d := dSiftup) F₇.based G (by simp [defs]) fun a o' pm' code' doc' g1 g2 g3 g4 => ?_)
      refine callWith_def g3 (args_cons (ldCC' F₇ rfl (args_cons (ldFC F₇ rfl (args_nil ⟨F₇.based _ _ g2, wpAny_call ?_⟩)))))
      refine siftup_call (xs := xs.setIfInBounds p t) (b := 0) (p := p) (key := key) (H := H) G F₇.based hH0 hp₇ (by omega) (by omega) (Nat.zero_le _)
        ?_ tr tot g2 g3 g4 (by show A.depth + 1 + 1 < _; omega) (by rw [Around.deeper_units]; omega) fun h₈ tk₈ zs hz1 hz2 hz3 hz4 => ?_
      · rw [hz, hat, upd_self]
        exact (SU.greater tr hheap hpn (hdown rfl)).congr (fun i _ hne => upd_ne _ _ hne) (Nat.le_refl _) hpn
      · exact hq h₈ tk₈ zs hz1 hz2 hz3 ((F₇.ext hz4).fm.keep)
    | false =>
      refine Call_ (glG (d := dSiftdown) F₇.based G (by simp [defs]) fun a o' pm' code' doc' g1 g2 g3 g4 => ?_)
      refine callWith_def g3 (args_cons (ldCC' F₇ rfl (args_cons (cI fun _ _ => args_cons (ldFC F₇ rfl (args_nil ⟨F₇.based _ _ g2, wpAny_call ?_⟩))))))
      refine siftdown_call (xs := xs.setIfInBounds p t) (b := 0) (sp := 0) (p := p) (key := key) (H := H) G F₇.based hH0 hp₇ (by omega) (by omega) (Desc.zero p) (Nat.le_refl _)
        ?_ tr tot g2 g3 g4 (by show A.depth + 1 < _; omega) (by rw [Around.deeper_units]; omega) fun h₈ tk₈ zs hz1 hz2 hz3 hz4 => ?_
      · rw [hz, hat, upd_self]
        exact (SD.less tr hheap hpn (hup rfl)).congr (fun i _ hne => upd_ne _ _ hne) (Nat.zero_le _) hpn
      · exact hq h₈ tk₈ zs hz1 hz2 hz3 ((F₇.ext hz4).fm.keep)
end
end Mine
end

section
open PySem PySem.W PyProof.Rows
namespace Mine
open PySem.Calls SeqAt

/-! ## comparing lists of items -/
section
variable {prog : Program} {w : World} {A : Around} {E : Value → Shared → Prop} {s : Shared} {h : Heap} {tk : Nat}

theorem eqItems {a b : Addr} {x : Str × Int} (ha : ItemAt s.heap a x) (hb : ItemAt s.heap b x) (hu : A.units < cLine) : EqAt A s (.ref a) (.ref b) true := by
  by_cases hne : a = b
  · subst hne; exact EqAt.same _
  · obtain ⟨t, u, hl⟩ := ha
    obtain ⟨t2, u2, hl2⟩ := hb
    have := RcAt.lists (A := A) (s := s) (e := fun _ => true) hl hl2 rfl hu (fun j h1 h2 => by
      have hj : j = 0 ∨ j = 1 := by
        have : j < 2 := h1
        omega
      rcases hj with rfl | rfl
      · have := EqAt.str_str (A := A.in1) (s := s) x.1 t x.1 t2
        simpa using this
      · have := EqAt.int_int (A := A.in1) (s := s) x.2 u x.2 u2
        simpa using this)
    exact EqAt.of_refs hne this

theorem all_true (n : Nat) : ((List.range n).all fun _ => true) = true := by simp

theorem eqLists {l b : Addr} {as bs : Array Addr} {Q : Value → Shared → Prop} (hl : h.IsList l (as.map Value.ref)) (hb : h.IsList b (bs.map Value.ref)) (hsz : as.size = bs.size)
    (hit : ∀ i, i < as.size → ∃ x, ItemAt h (fAt as i) x ∧ ItemAt h (fAt bs i) x) (hu : A.units + 2 < cLine) (hq : Q (.bool true) (st s h tk)) :
    wpAny (model prog w) A (compareOp .Eq (.ref l) (.ref b)) Q E (st s h tk) := by
  refine eq_listAt (s := st s h tk) (e := fun _ => true) hl hb (by simpa using hsz) (by omega) (fun j h1 h2 => ?_) (by rw [all_true]; exact hq)
  have hj : j < as.size := by simpa using h1
  obtain ⟨x, i1, i2⟩ := hit j hj
  have e1 : (as.map Value.ref)[j] = .ref (fAt as j) := by simp [fAt, hj]
  have e2 : (bs.map Value.ref)[j] = .ref (fAt bs j) := by simp [fAt, hsz ▸ hj]
  rw [e1, e2]
  exact eqItems (s := st s h tk) i1 i2 (by rw [Around.in1_units]; omega)
theorem neLists {l b : Addr} {as bs : Array Addr} {Q : Value → Shared → Prop} (hl : h.IsList l (as.map Value.ref)) (hb : h.IsList b (bs.map Value.ref)) (hsz : as.size = bs.size)
    (hit : ∀ i, i < as.size → ∃ x, ItemAt h (fAt as i) x ∧ ItemAt h (fAt bs i) x) (hu : A.units + 2 < cLine) (hq : Q (.bool false) (st s h tk)) :
    wpAny (model prog w) A (compareOp .NotEq (.ref l) (.ref b)) Q E (st s h tk) := by
  refine RcNeAt.lists (s := st s h tk) (A := A) (e := fun _ => true) hl hb (by simpa using hsz) (by omega) (fun j h1 h2 => ?_) prog w E Q (by rw [all_true]; exact hq)
  have hj : j < as.size := by simpa using h1
  obtain ⟨x, i1, i2⟩ := hit j hj
  have e1 : (as.map Value.ref)[j] = .ref (fAt as j) := by simp [fAt, hj]
  have e2 : (bs.map Value.ref)[j] = .ref (fAt bs j) := by simp [fAt, hsz ▸ hj]
  rw [e1, e2]
  exact eqItems (s := st s h tk) i1 i2 (by rw [Around.in1_units]; omega)

/-- xs != [] for an empty xs -/
theorem neNil {l b : Addr} {Q : Value → Shared → Prop} (hl : h.IsList l #[]) (hb : h.IsList b #[]) (hu : A.units < cLine) (hq : Q (.bool false) (st s h tk)) :
    wpAny (model prog w) A (compareOp .NotEq (.ref l) (.ref b)) Q E (st s h tk) :=
  RcNeAt.lists (s := st s h tk) (A := A) (e := fun _ => true) hl hb rfl hu (fun j h1 _ => by simp at h1) prog w E Q (by simpa using hq)

theorem listNil {env : Env} {pos : Pos} {Q : Value → Shared → Prop} (hq : ∀ h' D, h'.PlainList D #[] → Ext None h h' → h.objs.size ≤ D → Q (.ref D) (st s h' tk)) :
    wpAny (model prog w) A (eval (.List [] pos) env) Q E (st s h tk) :=
  wpAny_List (wpAny_items_nil ⟨Nat.zero_le _, hq _ _ ⟨_, Heap.get?_push_size _ rfl⟩ Ext.push (Nat.le_refl _)⟩)
end

/-- two sorted lists of the same are one -/
theorem sorted_uniq : ∀ {l₁ l₂ : List (Str × Int)}, l₁.Perm l₂ → l₁.Pairwise (fun a b => itLt b a = false) → l₂.Pairwise (fun a b => itLt b a = false) → l₁ = l₂ := by
  intro l₁
  induction l₁ with
  | nil => intro l₂ hp _ _; exact (List.nil_perm.mp hp).symm ▸ rfl
  | cons a r ih =>
    intro l₂ hp h1 h2
    cases l₂ with
    | nil => exact absurd hp.length_eq (by simp)
    | cons b q =>
      obtain ⟨h1a, h1r⟩ := List.pairwise_cons.mp h1
      obtain ⟨h2b, h2q⟩ := List.pairwise_cons.mp h2
      have hab : a = b := by
        have ha : a ∈ b :: q := hp.mem_iff.mp List.mem_cons_self
        have hb : b ∈ a :: r := hp.mem_iff.mpr List.mem_cons_self
        rcases List.mem_cons.mp ha with e | ha
        · exact e
        · rcases List.mem_cons.mp hb with e | hb
          · exact e.symm
          · exact itLt_total (h2b a ha) (h1a b hb)
      subst hab
      rw [ih (List.Perm.cons_inv hp) h1r h2q]

theorem ItemAt.uniq {h : Heap} {a : Addr} {x y : Str × Int} (h1 : ItemAt h a x) (h2 : ItemAt h a y) : x = y := by
  obtain ⟨t, u, o, ho, _, n, hd⟩ := h1
  obtain ⟨t2, u2, o2, ho2, _, n2, hd2⟩ := h2
  rw [ho] at ho2; cases ho2
  rw [hd] at hd2
  injection hd2 with hd2
  have e := congrArg Array.toList hd2
  simp only at e
  injection e with e1 e2
  injection e2 with e2
  injection e1 with e1
  injection e2 with e2
  exact Prod.ext e1 e2
end Mine
end

section
open PySem PySem.W PyProof.Rows
namespace Mine
open PySem.Calls SeqAt

theorem fAt_push_lt {bs : Array Addr} {b : Addr} {j : Nat} (h : j < bs.size) : fAt (bs.push b) j = fAt bs j := by
  unfold fAt
  rw [Array.getD_eq_getD_getElem?, Array.getD_eq_getD_getElem?, Array.getElem?_push, if_neg (by omega)]
theorem fAt_push_eq {bs : Array Addr} {b : Addr} : fAt (bs.push b) bs.size = b := by
  unfold fAt
  rw [Array.getD_eq_getD_getElem?, Array.getElem?_push, if_pos rfl]; rfl

section
variable {prog : Program} {w : World} {A : Around} {E : Value → Shared → Prop} {s : Shared} {env : Env}

/-- [[e1, k] for k in ..]: e1 gives the text R k -/
theorem compItems {e1 iter : Expr} {px p1 p2 pos : Pos} {scope : Scope} {cl : List (Str × Addr)} {Q : Value → Shared → Prop} {s₀ : Shared} (R : Nat → Str) (n : Nat) (hh : A.handled = none)
    (hclos : closureFor scope env = pure cl) (hcell : ∀ y ∈ scope.names, y.2 ≠ .cell) (hkind : scope.kind = .function)
    (hnames : ∀ y ∈ scope.names, y.2 = .local → scope.names.lookup y.1 = some .local) (hx : scope.names.lookup (Str.ofString "k") = some .local)
    (h : wpAny (model prog w) A (eval iter env) (fun xv s₁ => wpAny (model prog w) A (pyIter xv) (fun it s₂ =>
      ∃ (h₂ : Heap) (tk₂ : Nat) (I : Addr) (Jf : Heap → Prop), s₂ = st s h₂ tk₂ ∧ it = .ref I ∧ n ≤ 2 ^ 20 ∧ IsRangeIter h₂ I 0 n 1 ∧ (∀ h₃, Ext None h₂ h₃ → Jf h₃) ∧
      (∀ D C, h₂.objs.size ≤ D → D < C → (∀ hh hh', Jf hh → Ext (fun b => b = C ∨ b = D ∨ b ∈ [I]) hh hh' → Jf hh') ∧ (∀ hh hh', Jf hh → Ext None hh hh' → Jf hh') ∧
        (∀ i hh tk m t E', i < n → Jf hh → hh.Ns C m → m (Str.ofString "k") = some (.int i t) →
          wpAny (model prog w) A (eval e1 (compEnvC scope cl C env)) (fun y s₄ => ∃ h₄ tk₄ t', y = .str (R i) t' ∧ s₄ = st s h₄ tk₄ ∧ Ext None hh h₄ ∧ Jf h₄) E' (st s hh tk))) ∧
      (∀ h' tk' D (bs : Array Addr), Jf h' → h₂.objs.size ≤ D → h'.PlainList D (bs.map Value.ref) → bs.size = n → (∀ j, j < n → ItemAt h' (fAt bs j) (R j, j)) → (∀ b ∈ bs, h₂.objs.size ≤ b ∧ b ≠ D) → Q (.ref D) (st s h' tk'))) E s₁) E s₀)
    (hs : ∀ x, foldedSetIterable iter env x = pure x := by intro _; rfl) (hstar : ∀ env rest, starEach (e1 :: rest) env = (false, eval e1 env) :: starEach rest env := by intro _ _; rfl) :
    wpAny (model prog w) A (eval (.ListComp (.List [e1, .Name (Str.ofString "k") p1] p2) [⟨.Name (Str.ofString "k") px, iter, [], 0⟩] scope pos) env) Q E s₀ := by
  refine compJ (s := s) hclos hcell hkind hnames hx (wpAny_mono h (fun xv s₁ h₁ => wpAny_mono h₁ (fun it s₂ h₂ => ?_) fun _ _ e => e) fun _ _ e => e) hs
  obtain ⟨h₂, tk₂, I, Jf, rfl, rfl, hn, hI, hJ0, hJ, hQ⟩ := h₂
  refine ⟨h₂, tk₂, I, _, _, _, _, _, rfl, rfl, Walks.range hh I 0 1 n, hn, by simpa using hI, by intro b hb; simp at hb; subst hb; exact Heap.lt_size hI, fun D C hD hDC => ?_⟩
  obtain ⟨hst, hgr, hel⟩ := hJ D C hD hDC
  have hIlt : I < h₂.objs.size := Heap.lt_size hI
  refine ⟨None, fun i ys hh => Jf hh ∧ ∃ bs : Array Addr, ys = bs.map Value.ref ∧ bs.size = i ∧ (∀ j, j < i → ItemAt hh (fAt bs j) (R j, j)) ∧ ∀ b ∈ bs, C < b,
    ⟨fun _ q => q.elim, fun h₃ k₃ => ⟨hJ0 h₃ k₃, #[], by simp, rfl, fun j hj => by omega, fun b hb => by simp at hb⟩, ?_, ?_, ?_⟩, ?_⟩
  · rintro i ys hh ⟨_, bs, rfl, hbs, _, _⟩
    rw [Array.size_map]; omega
  · rintro i ys hh hh' ⟨hJ, bs, rfl, hbs, hit, hlt⟩ k
    refine ⟨hst _ _ hJ k, bs, rfl, hbs, fun j hj => (hit j hj).ext k ?_, hlt⟩
    have hb := hlt _ (fAt_mem (xs := bs) (i := j) (by omega))
    rintro (e | e | e)
    · exact Nat.lt_irrefl _ (e ▸ hb)
    · exact Nat.lt_irrefl _ (Nat.lt_trans hDC (e ▸ hb))
    · rw [List.mem_singleton.mp e] at hb
      exact Nat.lt_irrefl _ (Nat.lt_trans hIlt (Nat.lt_of_le_of_lt hD (Nat.lt_trans hDC hb)))
  · rintro i v ys hh tk m E' hi ⟨t', rfl⟩ ⟨hJ, bs, rfl, hbs, hit, hlt⟩ hns hm
    rw [show (0 : Int) + (i : Int) * 1 = i by omega] at hm
    refine wpAny_tests_nil ⟨hh, tk, rfl, Ext.refl _ _, (fun q => nomatch q), fun _ => ?_⟩
    refine wpAny_List (wpAny_items_cons (he := hstar _ _) (wpAny_mono (hel i hh tk m t' _ hi hJ hns hm) (fun y s₄ h₄ => ?_) fun _ _ e => e))
    obtain ⟨h₄, tk₄, t₄, rfl, rfl, k₄, hJ₄⟩ := h₄
    have hns₄ : h₄.Ns C m := hns.keeps fun b o e => k₄ b o id e
    refine wpAny_items_cons (ldLoc' (env := compEnvC scope cl C env) hns₄ hm (wpAny_items_nil ⟨by simp [sizeLine_eq], h₄.push _, _, rfl, k₄.trans Ext.push, hgr _ _ hJ₄ Ext.push, bs.push h₄.objs.size, by simp; rfl, by rw [Array.size_push, hbs], fun j hj => ?_, fun b hb => ?_⟩) hkind (lookup_relabel_local hx))
    · by_cases hji : j < i
      · have e : fAt (bs.push h₄.objs.size) j = fAt bs j := fAt_push_lt (by omega)
        rw [e]
        exact ((hit j hji).ext k₄ id).ext Ext.push id
      · have hji' : j = i := by omega
        subst hji'
        have e : fAt (bs.push h₄.objs.size) j = h₄.objs.size := by rw [← hbs]; exact fAt_push_eq
        rw [e]
        exact ⟨t₄, t', _, Heap.get?_push_size _ rfl, rfl, 0, rfl⟩
    · rcases Array.mem_push.mp hb with hb | rfl
      · exact hlt b hb
      · exact hns₄.lt
  · rintro h' tk' ys ⟨hJ, bs, rfl, hbs, hit, hlt⟩ hl
    refine hQ h' tk' D bs hJ hD hl hbs hit fun b hb => ⟨Nat.le_trans hD (Nat.le_of_lt (Nat.lt_trans hDC (hlt b hb))), Nat.ne_of_gt (Nat.lt_trans hDC (hlt b hb))⟩
end
end Mine
end

section
open PySem PySem.W PyProof.Rows
namespace Mine
open PySem.Calls SeqAt

section
variable {prog : Program} {w : World} {A : Around} {E : Value → Shared → Prop} {s : Shared} {h : Heap} {tk : Nat}
theorem iterL {l : Addr} {items : Array Value} {Q : Value → Shared → Prop} (hl : h.IsList l items)
    (hq : ∀ h' I, h'.IsListIter I l 0 → Ext None h h' → h.objs.size ≤ I → Q (.ref I) (st s h' tk)) : wpAny (model prog w) A (pyIter (.ref l)) Q E (st s h tk) :=
  wpAny_pyIter_list (s := st s h tk) hl (hq _ _ ⟨_, Heap.get?_push_size _ rfl, rfl, rfl⟩ Ext.push (Nat.le_refl _))
end

theorem plain1 {e : Expr} {env : Env} {pos : Pos} (he : starEach [e] env = (false, eval e env) :: starEach [] env := by rfl) : (backTo pos (starEach [e] env)).any (·.1) = false := by
  rw [he]; rfl

/-- the rows: a list of texts -/
def RowsAt (h : Heap) (l : Addr) (R : Nat → Str) (n : Nat) : Prop := ∃ items : Array Value, h.IsList l items ∧ items.size = n ∧ ∀ i, i < n → ∃ t, items[i]? = some (.str (R i) t)
theorem RowsAt.ext {X : Addr → Prop} {h h' : Heap} {l : Addr} {R : Nat → Str} {n : Nat} (x : RowsAt h l R n) (k : Ext X h h') (hx : ¬ X l) : RowsAt h' l R n :=
  let ⟨items, hl, r⟩ := x; ⟨items, IsList.ext hl k hx, r⟩

section
variable {prog : Program} {w : World} {A : Around} {s : Shared} {h : Heap} {tk : Nat} {base : Heap} {mg mb : Str → Option Value} {key : Addr → Str × Int} {H : Addr} {xs : Array Addr}

set_option maxHeartbeats 4000000 in
theorem stands_call {Rr : Result → Shared → Prop} {f : Addr} {o : Obj} {pm cd doc : Value} {Tl Rl : Addr} {ts : Array Addr} {R : Nat → Str} {n : Nat} (G : Gl mg mb base)
    (K : ∀ b o, base.get? b = some o → h.get? b = some o) (hp : HpAt h H xs key) (hn2 : 2 ≤ n) (hn : n < 64) (hxs : xs.size = n)
    (hheap : HeapFrom (kle key) xs.size 0 (fAt xs)) (hT : h.IsList Tl (ts.map Value.ref)) (hR : RowsAt h Rl R n) (hperm : xs.Perm ts) (hkey : ∀ i, i < n → key (fAt ts i) = (R i, (i : Int)))
    (ho : base.get? f = some o) (hdata : o.data = .func (docDef dStands.name dStands.params dStands.body dStands.scope pm cd doc)) (hcd : base.CodeRec cd dStands.name)
    (hroom : A.depth + 1 < recursionLimit) (hu : A.units + 40 < cLine) (hh : A.handled = none)
    (hq : ∀ h' tk', Ext None h h' → Rr (.ok (.ret (.bool true))) (st s h' tk')) :
    codeAny (model prog w) A (.call (.ref f) ⟨[.ref H, .ref Tl, .ref Rl], []⟩) Rr (st s h tk) := by
  have hts : ts.size = n := by rw [← hperm.size_eq]; exact hxs
  refine callC (d := dStands) (X := None) (binds := [(Str.ofString "heap", .ref H), (Str.ofString "things", .ref Tl), (Str.ofString "rows", .ref Rl)])
    (vars := []) (cv := [(Str.ofString "heap", .ref H), (Str.ofString "things", .ref Tl), (Str.ofString "rows", .ref Rl)]) G K (fun _ q => q.elim) (fun _ q => q.elim) (by omega) ho hdata hcd rfl rfl
    (fun _ => trivial) (fun _ => ⟨rfl, rfl, rfl, trivial⟩) ?_
  intro L h₁ tk₁ F hE
  have hh' : (A.deeper (envOfC dStands.name dStands.scope L f cd)).handled = none := hh
  have hu' : (A.deeper (envOfC dStands.name dStands.scope L f cd)).units + 30 < cLine := by rw [Around.deeper_units]; omega
  -- what the frame sees of the lists
  have lstH : ∀ {hh : Heap} {vars cv : List (Str × Value)}, FmC base None h L (cellsOf dStands.scope L) hh vars cv → hh.PlainList H (xs.map Value.ref) := fun F' => PlainList.ext hp.list F'.fm.keep id
  have lstT : ∀ {hh : Heap} {vars cv : List (Str × Value)}, FmC base None h L (cellsOf dStands.scope L) hh vars cv → hh.IsList Tl (ts.map Value.ref) := fun F' => IsList.ext hT F'.fm.keep id
  have lstR : ∀ {hh : Heap} {vars cv : List (Str × Value)}, FmC base None h L (cellsOf dStands.scope L) hh vars cv → RowsAt hh Rl R n := fun F' => hR.ext F'.fm.keep id
  have items : ∀ {hh : Heap} {vars cv : List (Str × Value)}, FmC base None h L (cellsOf dStands.scope L) hh vars cv → ∀ a, a ∈ xs → ItemAt hh a (key a) := fun F' a ha => (hp.items a ha).ext F'.fm.keep id
  -- no child below its parent
  refine wpAny_execs_cons (wpAny_If (wpAny_isTrue_Compare1 ?_))
  refine compJ (s := s) (cl := [(Str.ofString "heap", L + 1)]) rfl (by decide) rfl (by decide) rfl ?_
  refine Call_ (blG F.based G (by decide) boot_range (callWith_type1 (hplain := plain1) (args_cons (cI fun _ _ => args_cons (Call_ (blG F.based G (by decide) boot_len (callWith_builtin1 (args_cons (ldCC' F rfl (args_nil (lenI (lstH F).isList (by simp only [Array.size_map]; omega) fun _ _ => args_nil ?_)))))))))))
  rw [Array.size_map]
  refine rng2 fun h₂ r _ _ hr k₂ _ => iterR (n := n - 1) hr (by omega) (by omega) (by omega) (by omega) (by omega) fun h₃ I hI k₃ hIn => ?_
  have F₃ := (F.kept k₂).kept k₃
  refine ⟨h₃, _, I, _, _, _, _, _, rfl, rfl, Walks.range hh' I 1 1 (n - 1), by omega, by simpa using hI, by intro b hb; simp at hb; subst hb; exact Heap.lt_size hI, fun D C hD hDC => ?_⟩
  have nI := (F.kept k₂).new hIn
  have nD := F₃.new hD
  have nC := F₃.new (Nat.le_trans hD (Nat.le_of_lt hDC))
  have hY : ∀ b, (b = C ∨ b = D ∨ b ∈ [I]) → None b ∨ (h.objs.size ≤ b ∧ ¬ Pv L (cellsOf dStands.scope L) b) := by
    rintro b (rfl | rfl | hb)
    · exact .inr nC
    · exact .inr nD
    · rw [List.mem_singleton.mp hb]; exact .inr nI
  refine ⟨None, fun i ys hh => FmC base None h L (cellsOf dStands.scope L) hh [] [(Str.ofString "heap", .ref H), (Str.ofString "things", .ref Tl), (Str.ofString "rows", .ref Rl)] ∧ ys = #[],
    ⟨fun _ q => q.elim, fun h₄ k₄ => ⟨F₃.kept k₄, rfl⟩, fun i ys hh hJ => by rw [hJ.2]; exact Nat.zero_le _, fun i ys hh hh' hJ k => ⟨hJ.1.chg k hY, hJ.2⟩, ?_⟩, ?_⟩
  · rintro i v ys hh tk m E' hi ⟨t', rfl⟩ ⟨FJ, rfl⟩ hns hm
    have hi' : i + 1 < xs.size := by omega
    rw [show (1 : Int) + (i : Int) * 1 = ((i + 1 : Nat) : Int) by omega] at hm
    refine wpAny_tests_one (wpAny_isTrue_Compare1 (sub_list (ldCell (FJ.isCell (x := Str.ofString "heap") rfl rfl) (ldLoc' hns hm ⟨H, _, (i + 1 : Nat), _, .ref (fAt xs (i + 1)), rfl, rfl, (lstH FJ).isList, by omega, by omega, refs_get hi', ?_⟩))))
    refine sub_list (ldCell (FJ.isCell (x := Str.ofString "heap") rfl rfl) (wpAny_BinOp (wpAny_BinOp (ldLoc' hns hm (cI fun _ _ => subI fun _ _ => cI fun _ _ => fdivI (by decide) (by decide) fun _ _ => ?_)))))
    have e1 : (((i + 1 : Nat) : Int) - 1).fdiv 2 = (par (i + 1) : Nat) := by rw [Int.fdiv_eq_ediv_of_nonneg _ (by decide)]; unfold par; omega
    rw [e1]
    refine ⟨H, _, (par (i + 1) : Nat), _, .ref (fAt xs (par (i + 1))), rfl, rfl, (lstH FJ).isList, by omega, by unfold par; omega, refs_get (by unfold par; omega), ?_⟩
    refine ltItems (items FJ _ (fAt_mem hi')) (items FJ _ (fAt_mem (by unfold par; omega))) (by omega) ?_
    have hle : itLt (key (fAt xs (i + 1))) (key (fAt xs (par (i + 1)))) = false := hheap (i + 1) (by omega) hi' (Nat.zero_le _)
    rw [hle]
    exact wpAny_truthy_bool ⟨hh, _, rfl, Ext.refl _ _, fun _ => ⟨FJ, rfl⟩, fun q => nomatch q⟩
  rintro h₄ tk₄ ys ⟨F₄, rfl⟩ hD₄
  refine listNil fun h₅ D' hD' k₅ _ => neNil (PlainList.ext hD₄ k₅ id).isList hD'.isList (by omega) (wpAny_truthy_bool (wpAny_execs_nil ?_))
  have F₅ := F₄.kept k₅
  -- each of the heap's lists is the thing of its number
  refine wpAny_execs_cons (wpAny_If (wpAny_isTrue_Compare1 ?_))
  refine compJ (s := s) (cl := [(Str.ofString "things", L + 2)]) rfl (by decide) rfl (by decide) rfl ?_
  refine ldCC' F₅ rfl (iterL (lstH F₅).isList fun h₆ I₂ hI₂ k₆ hIn₂ => ?_)
  have F₆ := F₅.kept k₆
  have nI₂ := F₅.new hIn₂
  have hHI : H ≠ I₂ := by
    obtain ⟨_, e⟩ := hp.list
    exact Nat.ne_of_lt (Nat.lt_of_lt_of_le (Heap.lt_size e) nI₂.1)
  refine ⟨h₆, _, I₂, _, _, _, _, _, rfl, rfl, Walks.list hh' I₂ H hHI (xs.map Value.ref), by rw [Array.size_map]; omega, ⟨hI₂, (lstH F₆).isList⟩, ?_, fun D C hD hDC => ?_⟩
  · intro b hb
    simp only [List.mem_cons, List.not_mem_nil, or_false] at hb
    rcases hb with rfl | rfl
    · obtain ⟨_, e, _⟩ := hI₂; exact Heap.lt_size e
    · obtain ⟨_, e⟩ := lstH F₆; exact Heap.lt_size e
  have nD := F₆.new hD
  have nC := F₆.new (Nat.le_trans hD (Nat.le_of_lt hDC))
  have hY : ∀ b, (b = C ∨ b = D ∨ b ∈ [I₂]) → None b ∨ (h.objs.size ≤ b ∧ ¬ Pv L (cellsOf dStands.scope L) b) := by
    rintro b (rfl | rfl | hb)
    · exact .inr nC
    · exact .inr nD
    · rw [List.mem_singleton.mp hb]; exact .inr nI₂
  refine ⟨None, fun i ys hh => FmC base None h L (cellsOf dStands.scope L) hh [] [(Str.ofString "heap", .ref H), (Str.ofString "things", .ref Tl), (Str.ofString "rows", .ref Rl)] ∧ ys = #[],
    ⟨fun _ q => q.elim, fun h₄ k₄ => ⟨F₆.kept k₄, rfl⟩, fun i ys hh hJ => by rw [hJ.2]; exact Nat.zero_le _, fun i ys hh hh' hJ k => ⟨hJ.1.chg k hY, hJ.2⟩, ?_⟩, ?_⟩
  · rintro i v ys hh tk m E' hi hv ⟨FJ, rfl⟩ hns hm
    have hi' : i < xs.size := by rw [← Array.size_map (f := Value.ref)]; exact hi
    have hv' : v = .ref (fAt xs i) := by
      have := refs_get (xs := xs) hi'
      rw [hv] at this; exact Option.some.inj this
    subst hv'
    -- its number
    obtain ⟨j, hj, hje⟩ : ∃ j, j < n ∧ fAt ts j = fAt xs i := by
      have hm := hperm.mem_iff.mp (fAt_mem hi')
      obtain ⟨j, hj, e⟩ := Array.mem_iff_getElem.mp hm
      exact ⟨j, by omega, by simp [fAt, hj, e]⟩
    obtain ⟨u1, its1, hl1, hx1⟩ := itemNum (items FJ _ (fAt_mem hi'))
    rw [← hje, hkey j hj] at hx1
    refine wpAny_tests_one (wpAny_isTrue_Compare1 (ldLoc' hns hm (sub_list (ldCell (FJ.isCell (x := Str.ofString "things") rfl rfl) (sub_list (ldLoc' hns hm (cI fun _ _ => ⟨_, _, 1, _, _, rfl, rfl, hl1, by omega, by omega, hx1, ?_⟩)))))))
    refine ⟨Tl, _, (j : Int), _, .ref (fAt ts j), rfl, rfl, lstT FJ, by omega, by omega, refs_get (by omega), ?_⟩
    rw [hje]
    exact wpAny_isNot_ref_self (wpAny_truthy_bool ⟨hh, _, rfl, Ext.refl _ _, fun _ => ⟨FJ, rfl⟩, fun q => nomatch q⟩)
  rintro h₇ tk₇ ys ⟨F₇, rfl⟩ hD₇
  refine listNil fun h₈ D' hD' k₈ _ => neNil (PlainList.ext hD₇ k₈ id).isList hD'.isList (by omega) (wpAny_truthy_bool (wpAny_execs_nil ?_))
  have F₈ := F₇.kept k₈
  -- sorted(heap) == sorted([..])
  refine wpAny_execs_cons (wpAny_Return_some (wpAny_Compare1 (Call_ (blG F₈.based G (by decide) boot_sorted (callWith_builtin1 (args_cons (ldCC' F₈ rfl (args_nil ?_))))))))
  refine sortedI (key := key) (lstH F₈).isList (items F₈) (by omega) (by omega) (by omega) fun h₉ D₁ cs lD₁ hcs hs₁ k₉ _ => ?_
  have F₉ := F₈.kept k₉
  refine Call_ (blG F₉.based G (by decide) boot_sorted (callWith_builtin1 (args_cons ?_)))
  refine compItems (s := s) (cl := [(Str.ofString "rows", L + 3)]) R n hh' rfl (by decide) rfl (by decide) rfl ?_
  obtain ⟨its, hlR, hzR, hatR⟩ := lstR F₉
  refine Call_ (blG F₉.based G (by decide) boot_range (callWith_type1 (args_cons (Call_ (blG F₉.based G (by decide) boot_len (callWith_builtin1 (args_cons (ldCC' F₉ rfl (args_nil (lenI hlR (by omega) fun _ _ => args_nil ?_))))))))))
  rw [hzR]
  refine rng1 fun h₁₀ r _ _ _ hr k₁₀ _ => iterR (n := n) hr (by omega) (by omega) (by omega) (by omega) (by omega) fun h₁₁ I₃ hI₃ k₁₁ hIn₃ => ?_
  have F₁₀ := F₉.kept k₁₀
  have F₁₁ := F₁₀.kept k₁₁
  have nI₃ := F₁₀.new hIn₃
  have lD₁' : h₁₁.PlainList D₁ (cs.map Value.ref) := PlainList.ext (PlainList.ext lD₁ k₁₀ id) k₁₁ id
  have hD₁lt : D₁ < h₁₀.objs.size := by obtain ⟨_, e⟩ := PlainList.ext lD₁ k₁₀ id; exact Heap.lt_size e
  have hD₁lt' : D₁ < h₁₁.objs.size := by obtain ⟨_, e⟩ := lD₁'; exact Heap.lt_size e
  refine ⟨h₁₁, _, I₃, fun hh => FmC base None h L (cellsOf dStands.scope L) hh [] [(Str.ofString "heap", .ref H), (Str.ofString "things", .ref Tl), (Str.ofString "rows", .ref Rl)] ∧ hh.PlainList D₁ (cs.map Value.ref),
    rfl, rfl, by omega, hI₃, fun h₃ k₃ => ⟨F₁₁.kept k₃, PlainList.ext lD₁' k₃ id⟩, fun D C hD hDC => ⟨?_, fun hh hh' hJ k => ⟨hJ.1.kept k, PlainList.ext hJ.2 k id⟩, ?_⟩, ?_⟩
  · have nD := F₁₁.new hD
    have nC := F₁₁.new (Nat.le_trans hD (Nat.le_of_lt hDC))
    rintro hh hh' ⟨FJ, lJ⟩ k
    refine ⟨FJ.chg k ?_, PlainList.ext lJ k ?_⟩
    · rintro b (rfl | rfl | hb)
      · exact .inr nC
      · exact .inr nD
      · rw [List.mem_singleton.mp hb]; exact .inr nI₃
    · rintro (e | e | e)
      · exact Nat.lt_irrefl _ (Nat.lt_of_lt_of_le (e ▸ hD₁lt') (Nat.le_trans hD (Nat.le_of_lt hDC)))
      · exact Nat.lt_irrefl _ (Nat.lt_of_lt_of_le (e ▸ hD₁lt') hD)
      · exact Nat.lt_irrefl _ (Nat.lt_of_lt_of_le ((List.mem_singleton.mp e) ▸ hD₁lt) hIn₃)
  · rintro i hh tk m t E' hi ⟨FJ, lJ⟩ hns hm
    obtain ⟨its', hlR', hzR', hatR'⟩ := lstR FJ
    obtain ⟨tt, hat⟩ := hatR' i hi
    exact sub_list (ldCell (FJ.isCell (x := Str.ofString "rows") rfl rfl) (ldLoc' hns hm ⟨Rl, _, (i : Int), _, .str (R i) tt, rfl, rfl, hlR', by omega, by omega, hat, hh, _, tt, rfl, rfl, Ext.refl _ _, FJ, lJ⟩))
  rintro h₁₂ tk₁₂ D₂ bs ⟨F₁₂, lD₁₂⟩ hD₂ lD₂ hbs hit hnew
  -- the second's keys
  have hinj : ∀ i j, i < n → j < n → fAt bs i = fAt bs j → i = j := fun i j hi hj e => by
    have := ItemAt.uniq (hit i hi) (e ▸ hit j hj)
    injection this with _ h2
    omega
  classical
  let key₂ : Addr → Str × Int := fun a => if q : ∃ j, j < n ∧ fAt bs j = a then (R q.choose, (q.choose : Int)) else key a
  have hk₂ : ∀ j, j < n → key₂ (fAt bs j) = (R j, (j : Int)) := fun j hj => by
    have q : ∃ j', j' < n ∧ fAt bs j' = fAt bs j := ⟨j, hj, rfl⟩
    have e : q.choose = j := hinj _ _ q.choose_spec.1 hj q.choose_spec.2
    show (if q : ∃ j', j' < n ∧ fAt bs j' = fAt bs j then (R q.choose, (q.choose : Int)) else key (fAt bs j)) = _
    rw [dif_pos q, e]
  have memb : ∀ a, a ∈ bs → ∃ j, j < n ∧ fAt bs j = a := fun a ha => by
    obtain ⟨j, hj, e⟩ := Array.mem_iff_getElem.mp ha
    exact ⟨j, by omega, by simp [fAt, hj, e]⟩
  refine args_nil (sortedI (key := key₂) lD₂.isList (fun a ha => ?_) (by omega) (by omega) (by omega) fun h₁₃ D₃ ds lD₃ hds hs₂ k₁₃ _ => ?_)
  · obtain ⟨j, hj, rfl⟩ := memb a ha
    rw [hk₂ j hj]; exact hit j hj
  have F₁₃ := F₁₂.kept k₁₃
  -- the two lists of keys are one
  have e1 : cs.toList.map key = ds.toList.map key₂ := by
    refine sorted_uniq ?_ (List.pairwise_map.mpr hs₁) (List.pairwise_map.mpr hs₂)
    have p1 : (cs.toList.map key).Perm (ts.toList.map key) := ((hcs.trans hperm).toList).map key
    have p2 : (ds.toList.map key₂).Perm (bs.toList.map key₂) := (hds.toList).map key₂
    have e2 : ts.toList.map key = bs.toList.map key₂ := by
      apply List.ext_getElem?
      intro i
      by_cases hi : i < n
      · have a1 : ts.toList[i]? = some (fAt ts i) := by rw [Array.getElem?_toList]; exact fAt_get (by omega)
        have a2 : bs.toList[i]? = some (fAt bs i) := by rw [Array.getElem?_toList]; exact fAt_get (by omega)
        rw [List.getElem?_map, List.getElem?_map, a1, a2, Option.map_some, Option.map_some, hkey i hi, hk₂ i hi]
      · rw [List.getElem?_eq_none (by simp; omega), List.getElem?_eq_none (by simp; omega)]
    exact p1.trans (e2 ▸ p2.symm)
  have hcz : cs.size = n := hcs.size_eq.trans hxs
  have hdz : ds.size = n := hds.size_eq.trans hbs
  refine eqLists (PlainList.ext lD₁₂ k₁₃ id).isList lD₃.isList (by omega) (fun i hi => ⟨key (fAt cs i), items F₁₃ _ (hcs.mem_iff.mp (fAt_mem hi)), ?_⟩) (by omega) (hq h₁₃ _ F₁₃.fm.keep)
  have e3 := congrArg (fun l => l[i]?) e1
  have a1 : cs.toList[i]? = some (fAt cs i) := by rw [Array.getElem?_toList]; exact fAt_get (by omega)
  have a2 : ds.toList[i]? = some (fAt ds i) := by rw [Array.getElem?_toList]; exact fAt_get (by omega)
  simp only [List.getElem?_map, a1, a2, Option.map_some, Option.some.injEq] at e3
  rw [e3]
  have hmem : fAt ds i ∈ bs := hds.mem_iff.mp (fAt_mem (by omega))
  obtain ⟨j, hj, ej⟩ := memb _ hmem
  rw [← ej, hk₂ j hj]
  exact (hit j hj).ext k₁₃ id
end
end Mine
end

section
open PySem PySem.W PyProof.Rows
namespace Mine
open PySem.Calls SeqAt
open AutoSeq1 (wpAny_loadPart')

/-! ## enumerate over a tuple -/
theorem enum_newT (l : Addr) (items : Array Value) (n : Nat) (dct : Option Addr) (sl : Array (Option Value)) :
    Meets (Builtin.«enumerate.__new__» ⟨[.type "enumerate", .ref l], []⟩) (fun _ R s => s.heap.get? l = some { cls := .type "tuple", dict := dct, data := .seq items n, slots := sl } ∧
      R (.ok (.ret (.ref (s.heap.push { cls := .type "tuple_iterator", data := .fields #[.ref l, .int 0 0] }).objs.size)))
        { s with heap := (s.heap.push { cls := .type "tuple_iterator", data := .fields #[.ref l, .int 0 0] }).push { cls := .type "enumerate", data := .fields #[.none, .bool false, .ref s.heap.objs.size, rawInt 0, .none, .none] } }) :=
  .of_wp fun prog w A R s h => by
    obtain ⟨hp, g, d, tk, os⟩ := s; obtain ⟨hl, h⟩ := h
    have hsub := sub_enumerate
    have hL : Heap.IsTuple (Shared.heap ⟨hp, g, d, tk, os⟩) l items := ⟨_, hl, rfl, n, rfl⟩
    wp_walk using wpAny_loadPart' hl
    refine wpAny_stack_any fun st => wpAny_pure ?_
    split
    · rename_i c _ _ _ _ _
      cases (c == Value.type "enumerate")
      · wp_walk using wpAny_loadPart' hl, wpAny_pyIter_tuple hL
        exact ⟨_, rfl, h⟩
      · wp_walk using wpAny_loadPart' hl, wpAny_pyIter_tuple hL
        exact ⟨_, rfl, h⟩
    · wp_walk using wpAny_loadPart' hl, wpAny_pyIter_tuple hL
      exact ⟨_, rfl, h⟩

section
variable {prog : Program} {w : World} {A : Around} {E : Value → Shared → Prop} {s : Shared} {h : Heap} {tk : Nat}

theorem enumT {l : Addr} {items : Array Value} {Q : Value → Shared → Prop} (hL : h.IsTuple l items)
    (hq : ∀ h' e it, IsEnum h' e it 0 .none → h'.IsTupleIter it l 0 → Ext None h h' → h.objs.size ≤ it → it < e → Q (.ref e) (st s h' tk)) :
    wpAny (model prog w) A (call (.type "enumerate") [.ref l]) Q E (st s h tk) := by
  obtain ⟨⟨c, dct, dt, sl⟩, hl, hc, n, hd⟩ := hL
  replace hc : c = .type "tuple" := hc
  replace hd : dt = .seq items n := hd
  subst hc hd
  refine callType_new (s := st s h tk) F.called_enumerate (by decide) (F.typeCall_enumerate_1 _) (F.newCall_enumerate_1 _) (fun obj => F.args_object_init_2 obj _) F.entry_enumerate_new
    (enum_newT l items n dct sl) ⟨hl, ?_⟩
  have hz : (h.push { cls := .type "tuple_iterator", data := .fields #[.ref l, .int 0 0] }).objs.size = h.objs.size + 1 := Heap.size_push ..
  have hlt : h.objs.size < (h.push { cls := .type "tuple_iterator", data := .fields #[.ref l, .int 0 0] }).objs.size := by rw [hz]; exact Nat.lt_succ_self _
  show _ ∧ _
  have he := Heap.get?_push_size (h.push { cls := .type "tuple_iterator", data := .fields #[.ref l, .int 0 0] })
      (o := { cls := .type "enumerate", data := .fields #[.none, .bool false, .ref h.objs.size, rawInt 0, .none, .none] }) rfl
  exact ⟨⟨_, he, rfl⟩, hq _ _ _ he ⟨_, Heap.get?_push_of_some _ (Heap.get?_push_size _ rfl), rfl, rfl⟩ (Ext.push.trans Ext.push) (Nat.le_refl _) hlt⟩

theorem nextOfT {it l : Addr} {i : Nat} {items} {x : Value} {Q : Value → Shared → Prop} (hit : s.heap.IsTupleIter it l i)
    (hl : s.heap.IsTuple l items) (hx : items[i]? = some x)
    (hQ : ∀ h', h'.IsTupleIter it l (i + 1) → Heap.SameBut it s.heap h' → Q x { s with heap := h' }) :
    wpAny (model prog w) A (Builtin.SmallTypes.nextOf (.ref it)) Q E s := by
  obtain ⟨o, ho, hc, hd⟩ := id hit
  obtain ⟨ol, hol, _, nl, hdl⟩ := hl
  unfold Builtin.SmallTypes.nextOf
  refine wpAny_bind (wpAny_callSpecial?_slot (name := Str.ofString "__next__") hit.typeIs F.slot_tuple_iterator_next
    (wpAny_call_entry F.slot_tuple_iterator_next hit.typeIs F.entry_tuple_iterator_next ?_ (F.args_tuple_iterator_next_1 _)))
  show wpAny _ _ (field (.ref it) 0 >>= _) _ _ s
  refine wpAny_bind (wpAny_field ho hd (x := .ref l) rfl ?_)
  show wpAny _ _ (if (Value.ref l == Value.none) = true then _ else _) _ _ s
  rw [if_neg (show ¬ ((Value.ref l == Value.none) = true) from Bool.false_ne_true)]
  show wpAny _ _ (field (.ref it) 1 >>= _) _ _ s
  refine wpAny_bind (wpAny_field ho hd (x := .int i 0) rfl ?_)
  show wpAny _ _ (seqItems? (.ref l) >>= _) _ _ s
  refine wpAny_bind (wpAny_seqItems hol hdl ?_)
  simp only [Int.toNat_natCast, hx]
  refine wpAny_bind (wpAny_setField ho hd (by simp) (wpAny_pure ⟨x, rfl, wpAny_pure (hQ _ ?_ (Heap.SameBut.update ..))⟩))
  exact ⟨_, Heap.get?_update_self _ ho (Obj.isFreed_of_fields (Obj.data_mapFields hd _)), (Obj.cls_mapFields ..).trans hc, by
    rw [Obj.data_mapFields hd]; simp [rawInt]⟩

theorem nextOfT_end {it l : Addr} {i : Nat} {items} {Q : Value → Shared → Prop} (hh : A.handled = none)
    (hit : s.heap.IsTupleIter it l i) (hl : s.heap.IsTuple l items) (hx : items[i]? = none)
    (hE : ∀ h' e, Heap.ExtBut it s.heap h' → (∃ o, h'.get? e = some o ∧ o.cls = .type "StopIteration") → E (.ref e) { s with heap := h' }) :
    wpAny (model prog w) A (Builtin.SmallTypes.nextOf (.ref it)) Q E s := by
  obtain ⟨o, ho, hc, hd⟩ := id hit
  obtain ⟨ol, hol, _, nl, hdl⟩ := hl
  unfold Builtin.SmallTypes.nextOf
  refine wpAny_bind (wpAny_callSpecial?_slot (name := Str.ofString "__next__") hit.typeIs F.slot_tuple_iterator_next
    (wpAny_call_entry F.slot_tuple_iterator_next hit.typeIs F.entry_tuple_iterator_next ?_ (F.args_tuple_iterator_next_1 _)))
  show wpAny _ _ (field (.ref it) 0 >>= _) _ _ s
  refine wpAny_bind (wpAny_field ho hd (x := .ref l) rfl ?_)
  show wpAny _ _ (if (Value.ref l == Value.none) = true then _ else _) _ _ s
  rw [if_neg (show ¬ ((Value.ref l == Value.none) = true) from Bool.false_ne_true)]
  show wpAny _ _ (field (.ref it) 1 >>= _) _ _ s
  refine wpAny_bind (wpAny_field ho hd (x := .int i 0) rfl ?_)
  show wpAny _ _ (seqItems? (.ref l) >>= _) _ _ s
  refine wpAny_bind (wpAny_seqItems hol hdl ?_)
  simp only [Int.toNat_natCast, hx]
  refine wpAny_bind (wpAny_rule (wpAny_bind (wpAny_setField ho hd (by simp) ?_)))
  show wpAny _ _ (newExc (.type "StopIteration") [] >>= _) _ _ _
  refine wpAny_bind ?_
  simp only [newExc, newTuple]
  refine wpAny_bind (wpAny_newObj_type ?_ (by size_fits))
  refine wpAny_bind (m := firstArgMember _ _) (wpAny_of_eq (a := Value.none) (by first | rfl | (simp only [firstArgMember]; rfl)) ?_)
  refine wpAny_newObj_type ?_ (by size_fits)
  simp only [raiseNew]
  refine wpAny_bind (wpAny_handled ?_)
  first | rw [show A.in1.handled = none from hh] | rw [hh]
  refine wpAny_bind (wpAny_pure (wpAny_throw ?_))
  exact hE _ _ (((Heap.SameBut.update ..).extBut.push _).push _) ⟨_, Heap.get?_push_size _ rfl, rfl⟩

theorem enumT_next {e it l : Addr} {i : Nat} {items : Array Value} {x old : Value} {Q : Value → Shared → Prop}
    (he : IsEnum s.heap e it i old) (hit : s.heap.IsTupleIter it l i) (hl : s.heap.IsTuple l items) (hx : items[i]? = some x) (hne : e ≠ it)
    (hQ : ∀ h', IsEnumOut h' e it ((i : Int) + 1) x s.heap.objs.size → h'.IsTupleIter it l (i + 1) →
      h'.get? s.heap.objs.size = some { cls := .type "tuple", data := .seq #[.int i s.toks, x] } →
      (∀ b o, b ≠ e → b ≠ it → s.heap.get? b = some o → h'.get? b = some o) → Q (.ref s.heap.objs.size) { s with heap := h', toks := s.toks + 1 }) :
    wpAny (model prog w) A (Builtin.«enumerate.__next__» ⟨[.ref e], []⟩) (fun fin s' => ∃ v, fin = .done (.ret v) ∧ Q v s') E s := by
  obtain ⟨hp, g, d, tk, os⟩ := s
  show wpAny _ _ (field (.ref e) 2 >>= _) _ _ _
  refine wpAny_bind (wpAny_field he rfl (x := .ref it) rfl ?_)
  refine wpAny_bind (nextOfT hit hl hx fun h₁ hit₁ hs₁ => ?_)
  replace hs₁ : Heap.SameBut it hp h₁ := hs₁
  have he₁ : IsEnum h₁ e it i old := (hs₁.2 e hne).trans he
  show wpAny _ _ (field (.ref e) 3 >>= _) _ _ ⟨h₁, g, d, tk, os⟩
  refine wpAny_bind (wpAny_field he₁ rfl (x := rawInt i) rfl ?_)
  show wpAny _ _ (field (.ref e) 4 >>= _) _ _ ⟨h₁, g, d, tk, os⟩
  refine wpAny_bind (wpAny_field he₁ rfl (x := .none) rfl ?_)
  show wpAny _ _ (mkInt i >>= _) _ _ ⟨h₁, g, d, tk, os⟩
  refine wpAny_bind (wpAny_mkInt ?_)
  show wpAny _ _ (setField (.ref e) 3 (rawInt ((i : Int) + 1)) >>= _) _ _ ⟨h₁, g, d, tk + 1, os⟩
  refine wpAny_bind (wpAny_setField_rec he₁ (by simp) fun h₂ he₂ hs₂ => ?_)
  replace hs₂ : Heap.SameBut e h₁ h₂ := hs₂
  replace he₂ : IsEnum h₂ e it ((i : Int) + 1) old := he₂
  show wpAny _ _ (setField (.ref e) 4 .none >>= _) _ _ ⟨h₂, g, d, tk + 1, os⟩
  refine wpAny_bind (wpAny_setField_rec he₂ (by simp) fun h₃ he₃ hs₃ => ?_)
  replace hs₃ : Heap.SameBut e h₂ h₃ := hs₃
  replace he₃ : IsEnum h₃ e it ((i : Int) + 1) old := he₃
  show wpAny _ _ (newTuple [.int i tk, x] >>= _) _ _ ⟨h₃, g, d, tk + 1, os⟩
  refine wpAny_bind (wpAny_newTuple ?_)
  have he₄ : IsEnum (h₃.push { cls := .type "tuple", data := .seq #[.int i tk, x] }) e it ((i : Int) + 1) old := Heap.get?_push_of_some _ he₃
  generalize hh₄ : h₃.push { cls := .type "tuple", data := .seq #[.int i tk, x] } = h₄ at he₄
  have hsz : h₃.objs.size = hp.objs.size := by rw [hs₃.1, hs₂.1, hs₁.1]
  have hel : e < hp.objs.size := Heap.lt_size he
  have ht₄ : h₄.get? hp.objs.size = some { cls := .type "tuple", data := .seq #[.int i tk, x] } := by rw [← hh₄, ← hsz]; exact Heap.get?_push_size _ rfl
  have hk₄ : ∀ b o, b ≠ e → b ≠ it → hp.get? b = some o → h₄.get? b = some o := fun b o hbe hbi hb => by
    rw [← hh₄]; exact Heap.get?_push_of_some _ (hs₃.extBut b o hbe (hs₂.extBut b o hbe (hs₁.extBut b o hbi hb)))
  have hit₄ : h₄.IsTupleIter it l (i + 1) := by
    rw [← hh₄]; obtain ⟨o, ho, r⟩ := (hit₁.extBut hs₂.extBut (Ne.symm hne)).extBut hs₃.extBut (Ne.symm hne); exact ⟨o, Heap.get?_push_of_some _ ho, r⟩
  show wpAny _ _ (Builtin.SmallTypes.ownedTupleIsFree (.ref e) >>= _) _ _ ⟨h₄, g, d, tk + 1, os⟩
  rw [hsz]
  clear hh₄ he₃ hs₃ he₂ hs₂ he₁ hs₁ hit₁ hsz h₃ h₂ h₁
  refine wpAny_bind ?_
  · unfold Builtin.SmallTypes.ownedTupleIsFree
    refine wpAny_bind (wpAny_field he₄ rfl (x := .none) rfl (wpAny_pure ?_))
    simp only [if_true]
    refine wpAny_bind (wpAny_rule ?_)
    refine wpAny_bind (wpAny_field he₄ rfl (x := old) rfl ?_)
    refine wpAny_bind (wpAny_setField_rec he₄ (by simp) fun h₅ he₅ hs₅ => ?_)
    replace hs₅ : Heap.SameBut e h₄ h₅ := hs₅
    replace he₅ : IsEnum h₅ e it ((i : Int) + 1) x := he₅
    show wpAny _ _ (Builtin.SmallTypes.ownedTupleHandOut (.ref e) (.ref hp.objs.size) >>= _) _ _ ⟨h₅, g, d, tk + 1, os⟩
    refine wpAny_bind ?_
    · unfold Builtin.SmallTypes.ownedTupleHandOut
      refine wpAny_bind (wpAny_setField_rec he₅ (by simp) fun h₆ he₆ hs₆ => ?_)
      replace hs₆ : Heap.SameBut e h₅ h₆ := hs₆
      replace he₆ : IsEnumOut h₆ e it ((i : Int) + 1) x hp.objs.size := he₆
      refine wpAny_setField_rec he₆ (by simp) fun h₇ he₇ hs₇ => ?_
      replace hs₇ : Heap.SameBut e h₆ h₇ := hs₇
      replace he₇ : IsEnumOut h₇ e it ((i : Int) + 1) x hp.objs.size := he₇
      refine wpAny_bind (wpAny_letGo (wpAny_pure ⟨_, rfl, hQ h₇ he₇ ?_ ?_ ?_⟩))
      · exact ((hit₄.extBut hs₅.extBut (Ne.symm hne)).extBut hs₆.extBut (Ne.symm hne)).extBut hs₇.extBut (Ne.symm hne)
      · exact hs₇.extBut _ _ (Nat.ne_of_gt hel) (hs₆.extBut _ _ (Nat.ne_of_gt hel) (hs₅.extBut _ _ (Nat.ne_of_gt hel) ht₄))
      · exact fun b o hbe hbi hb => hs₇.extBut b o hbe (hs₆.extBut b o hbe (hs₅.extBut b o hbe (hk₄ b o hbe hbi hb)))

theorem nextE {e it l : Addr} {i : Nat} {items : Array Value} {x old : Value} {Q : Option Value → Shared → Prop}
    (he : IsEnum h e it i old) (hit : h.IsTupleIter it l i) (hl : h.IsTuple l items) (hx : items[i]? = some x) (hne : e ≠ it)
    (hQ : ∀ h' a tk' t, IsEnumOut h' e it ((i : Int) + 1) x a → h'.IsTupleIter it l (i + 1) → h'.IsTuple a #[.int i t, x] → h.objs.size ≤ a →
      Ext (fun b => b = e ∨ b = it) h h' → Q (some (.ref a)) (st s h' tk')) :
    wpAny (model prog w) A (pyNext (.ref e)) Q E (st s h tk) := by
  have hT : (st s h tk).TypeIs (.ref e) "enumerate" := ⟨_, he, rfl⟩
  unfold pyNext
  exact wpAny_bind (wpAny_attempt (wpAny_callSpecial?_slot (name := Str.ofString "__next__") hT F.slot_enumerate_next
    (wpAny_call_entry F.slot_enumerate_next hT F.entry_enumerate_next
      (enumT_next (s := st s h tk) he hit hl hx hne fun h' a b c k => wpAny_pure (hQ h' _ _ _ a b ⟨_, c, rfl, _, rfl⟩ (Nat.le_refl _) fun b o hb e => k b o (fun q => hb (.inl q)) (fun q => hb (.inr q)) e)) (F.args_enumerate_next_1 _))))

theorem endE {e it l : Addr} {i : Nat} {items : Array Value} {old : Value} {Q : Option Value → Shared → Prop} (hh : A.handled = none)
    (he : IsEnum h e it i old) (hit : h.IsTupleIter it l i) (hl : h.IsTuple l items) (hx : items[i]? = none)
    (hQ : ∀ h', Ext (One it) h h' → Q none (st s h' tk)) : wpAny (model prog w) A (pyNext (.ref e)) Q E (st s h tk) := by
  have hT : (st s h tk).TypeIs (.ref e) "enumerate" := ⟨_, he, rfl⟩
  unfold pyNext
  refine wpAny_bind (wpAny_attempt (wpAny_callSpecial?_slot (name := Str.ofString "__next__") hT F.slot_enumerate_next
    (wpAny_call_entry F.slot_enumerate_next hT F.entry_enumerate_next ?_ (F.args_enumerate_next_1 _))))
  show wpAny _ _ (field (.ref e) 2 >>= _) _ _ _
  refine wpAny_bind (wpAny_field (s := st s h tk) he rfl (x := .ref it) rfl ?_)
  refine wpAny_bind (nextOfT_end (s := st s h tk) hh hit hl hx fun h' x he' hx' => ?_)
  obtain ⟨o, ho, hc⟩ := hx'
  refine wpAny_bind (wpAny_isInstance (T := "StopIteration") (b := true) ⟨o, ho, hc⟩ isSubtype_stop ?_)
  exact wpAny_pure (hQ _ (Ext.of_extBut he'))
end
end Mine
end

section
open PySem PySem.W PyProof.Rows
namespace Mine

/-! ## the rows of signs -/
def signL (p : Nat) : List Nat := if p < 9 then (if p % 3 = 0 then [45, 120, 83, 115, 84, 116] else if p % 3 = 1 then [45, 119] else [45, 114]) else if p = 9 then [45, 84, 120, 116] else [45, 83, 120, 115]
def signS (p : Nat) : Str := ⟨(signL p).toArray⟩
def spotN (p : Nat) : Nat := if p < 9 then 9 - p else 36 - 3 * p
def turnC (p c : Nat) : Nat := (signL p).getD ((signL p).idxOf c + 1 - (signL p).idxOf c % 2 * 2) 0
def tx (l : List Nat) : Str := ⟨l.toArray⟩

def chB (b : Bool) (c : Nat) : Nat := if b then c else 45
def chX (x sp : Bool) (c : Nat) : Nat := if sp then (if x then c else c - 32) else (if x then 120 else 45)
def rowL (t : Nat) (b : Nat → Bool) : List Nat :=
  [t, chB (b 8) 114, chB (b 7) 119, chX (b 6) (b 11) 115, chB (b 5) 114, chB (b 4) 119, chX (b 3) (b 10) 115, chB (b 2) 114, chB (b 1) 119, chX (b 0) (b 9) 116]
def rowS (t : Nat) (b : Nat → Bool) : Str := tx (rowL t b)
def flipB (b : Nat → Bool) (p : Nat) : Nat → Bool := fun i => if i = p then !b i else b i
/-- the bit of the right to run that goes with a place above 8 -/
def xBit (p : Nat) : Nat := 3 * (p - 9)
def dnB (b : Nat → Bool) (p : Nat) : Bool := if 8 < p then (!b p) != b (xBit p) else !b p

theorem rowL_congr {t : Nat} {b b' : Nat → Bool} (h : ∀ i, i < 12 → b i = b' i) : rowL t b = rowL t b' := by
  simp only [rowL, h 0 (by omega), h 1 (by omega), h 2 (by omega), h 3 (by omega), h 4 (by omega), h 5 (by omega), h 6 (by omega), h 7 (by omega), h 8 (by omega), h 9 (by omega), h 10 (by omega), h 11 (by omega)]

theorem cX0 : ∀ x y : Bool, chX x y 116 ∈ signL 0 ∧ turnC 0 (chX x y 116) = chX (!x) y 116 := by decide +kernel
theorem cX3 : ∀ x y : Bool, chX x y 115 ∈ signL 3 ∧ turnC 3 (chX x y 115) = chX (!x) y 115 := by decide +kernel
theorem cX6 : ∀ x y : Bool, chX x y 115 ∈ signL 6 ∧ turnC 6 (chX x y 115) = chX (!x) y 115 := by decide +kernel
theorem cX9 : ∀ x y : Bool, chX x y 116 ∈ signL 9 ∧ turnC 9 (chX x y 116) = chX x (!y) 116 := by decide +kernel
theorem cX10 : ∀ x y : Bool, chX x y 115 ∈ signL 10 ∧ turnC 10 (chX x y 115) = chX x (!y) 115 := by decide +kernel
theorem cX11 : ∀ x y : Bool, chX x y 115 ∈ signL 11 ∧ turnC 11 (chX x y 115) = chX x (!y) 115 := by decide +kernel
theorem cB1 : ∀ x : Bool, chB x 119 ∈ signL 1 ∧ turnC 1 (chB x 119) = chB (!x) 119 := by decide +kernel
theorem cB2 : ∀ x : Bool, chB x 114 ∈ signL 2 ∧ turnC 2 (chB x 114) = chB (!x) 114 := by decide +kernel
theorem cB4 : ∀ x : Bool, chB x 119 ∈ signL 4 ∧ turnC 4 (chB x 119) = chB (!x) 119 := by decide +kernel
theorem cB5 : ∀ x : Bool, chB x 114 ∈ signL 5 ∧ turnC 5 (chB x 114) = chB (!x) 114 := by decide +kernel
theorem cB7 : ∀ x : Bool, chB x 119 ∈ signL 7 ∧ turnC 7 (chB x 119) = chB (!x) 119 := by decide +kernel
theorem cB8 : ∀ x : Bool, chB x 114 ∈ signL 8 ∧ turnC 8 (chB x 114) = chB (!x) 114 := by decide +kernel

theorem turn_with {p c d : Nat} {l l' : List Nat} (h : c ∈ signL p ∧ turnC p c = d) (hg : l.getD (spotN p) 0 = c) (hs : l.set (spotN p) d = l') : l.getD (spotN p) 0 ∈ signL p ∧ l.set (spotN p) (turnC p (l.getD (spotN p) 0)) = l' := by
  rw [hg, h.2]; exact ⟨h.1, hs⟩

theorem turn_row {p : Nat} (hp : p < 12) (t : Nat) (b : Nat → Bool) :
    (rowL t b).getD (spotN p) 0 ∈ signL p ∧ (rowL t b).set (spotN p) (turnC p ((rowL t b).getD (spotN p) 0)) = rowL t (flipB b p) := by
  match p, hp with
  | 0, _ => exact turn_with (cX0 (b 0) (b 9)) rfl rfl
  | 1, _ => exact turn_with (cB1 (b 1)) rfl rfl
  | 2, _ => exact turn_with (cB2 (b 2)) rfl rfl
  | 3, _ => exact turn_with (cX3 (b 3) (b 10)) rfl rfl
  | 4, _ => exact turn_with (cB4 (b 4)) rfl rfl
  | 5, _ => exact turn_with (cB5 (b 5)) rfl rfl
  | 6, _ => exact turn_with (cX6 (b 6) (b 11)) rfl rfl
  | 7, _ => exact turn_with (cB7 (b 7)) rfl rfl
  | 8, _ => exact turn_with (cB8 (b 8)) rfl rfl
  | 9, _ => exact turn_with (cX9 (b 0) (b 9)) rfl rfl
  | 10, _ => exact turn_with (cX10 (b 3) (b 10)) rfl rfl
  | 11, _ => exact turn_with (cX11 (b 6) (b 11)) rfl rfl
  | p + 12, h => omega

/-- told by the sign alone -/
def dnC (p c : Nat) : Bool := (decide ((signL p).idxOf c % 2 = 0)) != (decide (8 < p) && [120, 115, 116].contains c)
theorem dX0 : ∀ x y : Bool, dnC 0 (chX x y 116) = !x := by decide +kernel
theorem dX3 : ∀ x y : Bool, dnC 3 (chX x y 115) = !x := by decide +kernel
theorem dX6 : ∀ x y : Bool, dnC 6 (chX x y 115) = !x := by decide +kernel
theorem dX9 : ∀ x y : Bool, dnC 9 (chX x y 116) = ((!y) != x) := by decide +kernel
theorem dX10 : ∀ x y : Bool, dnC 10 (chX x y 115) = ((!y) != x) := by decide +kernel
theorem dX11 : ∀ x y : Bool, dnC 11 (chX x y 115) = ((!y) != x) := by decide +kernel
theorem dB1 : ∀ x : Bool, dnC 1 (chB x 119) = !x := by decide +kernel
theorem dB2 : ∀ x : Bool, dnC 2 (chB x 114) = !x := by decide +kernel
theorem dB4 : ∀ x : Bool, dnC 4 (chB x 119) = !x := by decide +kernel
theorem dB5 : ∀ x : Bool, dnC 5 (chB x 114) = !x := by decide +kernel
theorem dB7 : ∀ x : Bool, dnC 7 (chB x 119) = !x := by decide +kernel
theorem dB8 : ∀ x : Bool, dnC 8 (chB x 114) = !x := by decide +kernel

theorem dn_with {p c : Nat} {l : List Nat} {q : Bool} (h : dnC p c = q) (hg : l.getD (spotN p) 0 = c) : dnC p (l.getD (spotN p) 0) = q := by rw [hg, h]

theorem down_row {p : Nat} (hp : p < 12) (t : Nat) (b : Nat → Bool) :
    ((decide ((signL p).idxOf ((rowL t b).getD (spotN p) 0) % 2 = 0)) != (decide (8 < p) && [120, 115, 116].contains ((rowL t b).getD (spotN p) 0))) = dnB b p := by
  show dnC p ((rowL t b).getD (spotN p) 0) = dnB b p
  match p, hp with
  | 0, _ => exact dn_with (dX0 (b 0) (b 9)) rfl
  | 1, _ => exact dn_with (dB1 (b 1)) rfl
  | 2, _ => exact dn_with (dB2 (b 2)) rfl
  | 3, _ => exact dn_with (dX3 (b 3) (b 10)) rfl
  | 4, _ => exact dn_with (dB4 (b 4)) rfl
  | 5, _ => exact dn_with (dB5 (b 5)) rfl
  | 6, _ => exact dn_with (dX6 (b 6) (b 11)) rfl
  | 7, _ => exact dn_with (dB7 (b 7)) rfl
  | 8, _ => exact dn_with (dB8 (b 8)) rfl
  | 9, _ => exact dn_with (dX9 (b 0) (b 9)) rfl
  | 10, _ => exact dn_with (dX10 (b 3) (b 10)) rfl
  | 11, _ => exact dn_with (dX11 (b 6) (b 11)) rfl
  | p + 12, h => omega

theorem sign_lt : ∀ p, p < 12 → ∀ c, c ∈ signL p → (dnC p c = true → c < turnC p c) ∧ (dnC p c = false → turnC p c < c) := by decide +kernel

theorem lt_cons_iff (a c : Nat) (l m : List Nat) : a :: l < c :: m ↔ a < c ∨ a = c ∧ l < m := by
  constructor
  · intro h
    cases h with
    | rel h => exact .inl h
    | cons h => exact .inr ⟨rfl, h⟩
  · rintro (h | ⟨rfl, h⟩)
    · exact .rel h
    · exact .cons h

theorem set_up : ∀ (l : List Nat) (s d : Nat), s < l.length → l.getD s 0 < d → l < l.set s d
  | [], s, d, h, _ => absurd h (by simp)
  | c :: l, 0, d, _, h => (lt_cons_iff _ _ _ _).mpr (.inl h)
  | c :: l, s + 1, d, h, hd => (lt_cons_iff _ _ _ _).mpr (.inr ⟨rfl, set_up l s d (by simpa using h) (by simpa using hd)⟩)
theorem set_down : ∀ (l : List Nat) (s d : Nat), s < l.length → d < l.getD s 0 → l.set s d < l
  | [], s, d, h, _ => absurd h (by simp)
  | c :: l, 0, d, _, h => (lt_cons_iff _ _ _ _).mpr (.inl h)
  | c :: l, s + 1, d, h, hd => (lt_cons_iff _ _ _ _).mpr (.inr ⟨rfl, set_down l s d (by simpa using h) (by simpa using hd)⟩)
theorem spot_lt (p : Nat) : spotN p < 10 := by unfold spotN; split <;> omega

/-- which way the new row lies -/
theorem flip_lt {p : Nat} (hp : p < 12) (t : Nat) (b : Nat → Bool) : (dnB b p = true → rowL t b < rowL t (flipB b p)) ∧ (dnB b p = false → rowL t (flipB b p) < rowL t b) := by
  obtain ⟨h1, h2⟩ := turn_row hp t b
  have h3 : dnC p ((rowL t b).getD (spotN p) 0) = dnB b p := down_row hp t b
  have h4 := sign_lt p hp _ h1
  rw [h3] at h4
  rw [← h2]
  exact ⟨fun q => set_up _ _ _ (spot_lt p) (h4.1 q), fun q => set_down _ _ _ (spot_lt p) (h4.2 q)⟩

/-! ## bits of a mode -/
def bt (m : Int) (i : Nat) : Bool := decide (m / 2 ^ i % 2 = 1)
def tch (i : Int) : Nat := [63, 112, 99, 63, 100, 63, 98, 63, 45, 63, 108, 63, 115, 63, 63, 63].getD i.toNat 63
def rowM (m : Int) : Str := rowS (tch (m / 4096 % 16)) (bt m)
def turnM (m : Int) (p : Nat) : Int := m + 2 ^ p - m / 2 ^ p % 2 * 2 ^ (p + 1)

theorem pow_pos2 (i : Nat) : (0 : Int) < 2 ^ i := Int.pow_pos (by decide)

theorem bit_low (m e : Int) (i k : Nat) : (m + 2 ^ (i + (k + 1)) * e) / 2 ^ i % 2 = m / 2 ^ i % 2 := by
  have e1 : (2 : Int) ^ (i + (k + 1)) * e = 2 ^ k * e * 2 * 2 ^ i := by rw [Int.pow_add, Int.pow_succ]; ac_rfl
  rw [e1, Int.add_mul_ediv_right _ _ (Int.ne_of_gt (pow_pos2 i)), Int.add_mul_emod_self_right]

theorem div_high {m n : Int} {p : Nat} (h : m / 2 ^ p = n / 2 ^ p) (k : Nat) : m / 2 ^ (p + k) = n / 2 ^ (p + k) := by
  rw [Int.pow_add, ← Int.ediv_ediv_of_nonneg (Int.le_of_lt (pow_pos2 p)), h, Int.ediv_ediv_of_nonneg (Int.le_of_lt (pow_pos2 p))]

theorem turn_div (m : Int) (p : Nat) : turnM m p / 2 ^ p = m / 2 ^ p + (1 - m / 2 ^ p % 2 * 2) := by
  have e1 : turnM m p = m + (1 - m / 2 ^ p % 2 * 2) * 2 ^ p := by
    unfold turnM
    rw [Int.pow_succ, Int.sub_mul, Int.one_mul, Int.mul_assoc, Int.mul_comm (2 ^ p) 2, Int.add_sub_assoc]
  rw [e1, Int.add_mul_ediv_right _ _ (Int.ne_of_gt (pow_pos2 p))]

theorem turn_high (m : Int) (p : Nat) : turnM m p / 2 ^ (p + 1) = m / 2 ^ (p + 1) := by
  rw [Int.pow_succ, ← Int.ediv_ediv_of_nonneg (Int.le_of_lt (pow_pos2 p)), ← Int.ediv_ediv_of_nonneg (Int.le_of_lt (pow_pos2 p)), turn_div]
  omega

theorem bt_turn {p : Nat} (hp : p < 12) (m : Int) : (∀ i, i < 12 → bt (turnM m p) i = flipB (bt m) p i) ∧ turnM m p / 4096 % 16 = m / 4096 % 16 := by
  refine ⟨fun i _ => ?_, ?_⟩
  · unfold bt flipB
    rcases Nat.lt_trichotomy i p with h | rfl | h
    · obtain ⟨k, rfl⟩ : ∃ k, p = i + (k + 1) := ⟨p - i - 1, by omega⟩
      rw [if_neg (by omega)]
      have e1 : turnM m (i + (k + 1)) = m + 2 ^ (i + (k + 1)) * (1 - m / 2 ^ (i + (k + 1)) % 2 * 2) := by
        unfold turnM
        rw [Int.pow_succ (m := 2) (n := i + (k + 1)), Int.mul_sub, Int.mul_one, Int.add_sub_assoc, Int.mul_left_comm]
      rw [e1, bit_low]
    · rw [if_pos rfl, turn_div]
      show _ = !(decide (m / 2 ^ i % 2 = 1))
      generalize m / 2 ^ i = q
      rcases (by omega : q % 2 = 0 ∨ q % 2 = 1) with h | h
      · rw [h, decide_eq_true (by omega), decide_eq_false (by omega)]; rfl
      · rw [h, decide_eq_false (by omega), decide_eq_true (by omega)]; rfl
    · obtain ⟨k, rfl⟩ : ∃ k, i = p + 1 + k := ⟨i - p - 1, by omega⟩
      rw [if_neg (by omega), div_high (turn_high m p)]
  · obtain ⟨k, hk⟩ : ∃ k, 12 = p + 1 + k := ⟨12 - p - 1, by omega⟩
    have := div_high (turn_high m p) k
    rw [← hk] at this
    exact congrArg (· % 16) this

theorem row_turn {p : Nat} (hp : p < 12) (m : Int) : rowS (tch (m / 4096 % 16)) (flipB (bt m) p) = rowM (turnM m p) := by
  obtain ⟨h1, h2⟩ := bt_turn hp m
  unfold rowM rowS
  rw [h2, rowL_congr h1]

/-- what the key's order says of it -/
theorem turn_key {p : Nat} (hp : p < 12) (m : Int) (k : Int) :
    (dnB (bt m) p = true → itLt (rowM (turnM m p), k) (rowM m, k) = false) ∧ (dnB (bt m) p = false → itLt (rowM m, k) (rowM (turnM m p), k) = false) := by
  have hl := flip_lt hp (tch (m / 4096 % 16)) (bt m)
  rw [← row_turn hp m]
  have aux : ∀ l₁ l₂ : List Nat, l₁ < l₂ → itLt (tx l₂, k) (tx l₁, k) = false := fun l₁ l₂ h => by
    cases hq : itLt (tx l₂, k) (tx l₁, k) with
    | false => rfl
    | true =>
      rw [itLt_iff'] at hq
      simp only [tx, List.toList_toArray] at hq
      rcases hq with ⟨e, _⟩ | q
      · rw [e] at h; exact absurd h (List.lt_irrefl _)
      · exact absurd (List.lt_trans q h) (List.lt_irrefl _)
  exact ⟨fun h => aux _ _ (hl.1 h), fun h => aux _ _ (hl.2 h)⟩
end Mine
end

section
open PySem PySem.W PyProof.Rows
namespace Mine
open PySem.Calls SeqAt

section
variable {prog : Program} {w : World} {A : Around} {E : Value → Shared → Prop} {s : Shared} {h : Heap} {tk : Nat} {env : Env}

theorem Ext.of_size {h h' : Heap} (k : Heap.ExtBut h.objs.size h h') : Ext None h h' := fun b o _ e => k b o (Nat.ne_of_lt (Heap.lt_size e)) e

theorem asgPair {e1 e2 : Expr} {k : Nat} {pos : Pos} {t : Addr} {v1 v2 : Value} {Q : Unit → Shared → Prop} (hh : A.handled = none) (ht : h.IsTuple t #[v1, v2])
    (hq : ∀ h', Ext None h h' → wpAny (model prog w) A (assign e1 env v1) (fun _ s₂ => wpAny (model prog w) A (assign e2 env v2) (fun _ s₃ => Q () s₃) E s₂) E (st s h' tk))
    (he : assignEach [e1, e2] env = [(false, assign e1 env), (false, assign e2 env)] := by rfl) :
    wpAny (model prog w) A (assign (.Tuple [e1, e2] k pos) env (.ref t)) Q E (st s h tk) := by
  refine wpAny_assign_Tuple (s := st s h tk) hh ht (by rw [he]; rfl) (by rw [he]; rfl) fun h' k' => ?_
  rw [he]
  exact assignInOrder_cons (wpAny_mono (hq h' (Ext.of_size k')) (fun _ s₂ h₂ => assignInOrder_cons (wpAny_mono h₂ (fun _ _ h₃ => assignInOrder_nil h₃) fun _ _ x => x)) fun _ _ x => x)

theorem unpackN {t : Addr} {items : Array Value} {n : Nat} {Q : List Value → Shared → Prop} (hh : A.handled = none) (ht : h.IsTuple t items) (hn : n = items.size) (hq : ∀ h', Ext None h h' → Q items.toList (st s h' tk)) :
    wpAny (model prog w) A (unpackItems (.ref t) n none) Q E (st s h tk) := by
  subst hn
  exact wpAny_unpackItems_tuple (s := st s h tk) hh ht fun h' k' => hq h' (Ext.of_size k')

theorem unpack2 {t : Addr} {v1 v2 : Value} {Q : List Value → Shared → Prop} (hh : A.handled = none) (ht : h.IsTuple t #[v1, v2]) (hq : ∀ h', Ext None h h' → Q [v1, v2] (st s h' tk)) :
    wpAny (model prog w) A (unpackItems (.ref t) 2 none) Q E (st s h tk) := unpackN hh ht rfl hq

theorem IsTuple.ext {X : Addr → Prop} {h h' : Heap} {a : Addr} {x : Array Value} (i : h.IsTuple a x) (k : Ext X h h') (hx : ¬ X a) : h'.IsTuple a x :=
  let ⟨o, ho, r⟩ := i; ⟨o, k _ _ hx ho, r⟩

theorem tupleI {elts : List Expr} {k : Nat} {pos : Pos} {Q : Value → Shared → Prop} {s₀ : Shared}
    (hq : wpAny (model prog w) A (spliced (backTo pos (starEach elts env))) (fun vs s₁ => ∃ h₁ tk₁, s₁ = st s h₁ tk₁ ∧ vs.length ≤ 100 ∧ ∀ h' a, h'.IsTuple a vs.toArray → Ext None h₁ h' → h₁.objs.size ≤ a → Q (.ref a) (st s h' tk₁)) E s₀) :
    wpAny (model prog w) A (eval (.Tuple elts k pos) env) Q E s₀ := by
  refine wpAny_Tuple (wpAny_mono hq (fun vs s₁ h₁ => ?_) fun _ _ x => x)
  obtain ⟨h₁, tk₁, rfl, hl, hq⟩ := h₁
  exact ⟨by rw [sizeLine_eq]; omega, hq _ _ ⟨_, Heap.get?_push_size _ rfl, rfl, 0, rfl⟩ Ext.push (Nat.le_refl _)⟩

theorem sub_tuple {value slice : Expr} {pos : Pos} {Q : Value → Shared → Prop} {s₀ : Shared}
    (hq : wpAny (model prog w) A (eval value env) (fun o s₁ => wpAny (model prog w) A (eval slice env) (fun i s₂ =>
      ∃ l items k t x, o = .ref l ∧ i = .int k t ∧ s₂.heap.IsTuple l items ∧ 0 ≤ k ∧ k < 2 ^ 62 ∧ k < items.size ∧ items[k.toNat]? = some x ∧ Q x s₂) E s₁) E s₀)
    (hs : ∀ l k t, subscripted slice false (.ref l) (.int k t) = operate [.ref l, .int k t] (getItem (.ref l) (.int k t)) := by intro _ _ _; with_unfolding_all rfl) :
    wpAny (model prog w) A (eval (.Subscript value slice pos) env) Q E s₀ := by
  refine Subscript_ (wpAny_mono hq (fun o s₁ h₁ => wpAny_mono h₁ (fun i s₂ h₂ => ?_) fun _ _ x => x) fun _ _ x => x)
  obtain ⟨l, items, k, t, x, rfl, rfl, hl, h0, hfit, hlt, hx, hq⟩ := h₂
  exact tail_any hl.typeIs slot_tuple_getitem.lookup (getItem_tuple hl (by omega) (by omega) (seqIndex_of h0 hlt) hx hq) (hs l k t)

theorem sub_str {value slice : Expr} {pos : Pos} {Q : Value → Shared → Prop} {s₀ : Shared}
    (hq : wpAny (model prog w) A (eval value env) (fun o s₁ => wpAny (model prog w) A (eval slice env) (fun i s₂ =>
      ∃ x t k u c h₂ tk₂, s₂ = st s h₂ tk₂ ∧ o = .str x t ∧ i = .int k u ∧ 0 ≤ k ∧ k < 2 ^ 62 ∧ k < x.length ∧ x.cps[k.toNat]? = some c ∧ ∀ t' tk', Q (.str ⟨#[c]⟩ t') (st s h₂ tk')) E s₁) E s₀)
    (hs : ∀ x t k u, subscripted slice false (.str x t) (.int k u) = operate [.str x t, .int k u] (getItem (.str x t) (.int k u)) := by intro _ _ _ _; with_unfolding_all rfl) :
    wpAny (model prog w) A (eval (.Subscript value slice pos) env) Q E s₀ := by
  refine Subscript_ (wpAny_mono hq (fun o s₁ h₁ => wpAny_mono h₁ (fun i s₂ h₂ => ?_) fun _ _ x => x) fun _ _ x => x)
  obtain ⟨x, t, k, u, c, h₂, tk₂, rfl, rfl, rfl, h0, hfit, hlt, hc, hq⟩ := h₂
  have e1 : decide (k < -(2 ^ 63 : Int)) = false := decide_eq_false (by omega)
  have e2 : decide (k ≥ (2 ^ 63 : Int)) = false := decide_eq_false (by omega)
  refine tail_any (typeIs_str _ x t) slot_str_getitem.lookup (PyProof.Rows.getItem_str (s := st s h₂ tk₂) (by rw [e1, e2]; rfl) ?_ (hq _ _)) (hs x t k u)
  rw [seqIndex_of h0 hlt]
  exact hc

theorem cons_of {l : List Nat} {n : Nat} (h : l.length = n + 1) : ∃ c r, l = c :: r ∧ r.length = n := by
  cases l with
  | nil => cases h
  | cons c r => exact ⟨c, r, rfl, Nat.succ.inj h⟩
theorem ten {l : List Nat} (hl : l.length = 10) : ∃ c0 c1 c2 c3 c4 c5 c6 c7 c8 c9, l = [c0, c1, c2, c3, c4, c5, c6, c7, c8, c9] := by
  obtain ⟨c0, _, rfl, h0⟩ := cons_of hl
  obtain ⟨c1, _, rfl, h1⟩ := cons_of h0
  obtain ⟨c2, _, rfl, h2⟩ := cons_of h1
  obtain ⟨c3, _, rfl, h3⟩ := cons_of h2
  obtain ⟨c4, _, rfl, h4⟩ := cons_of h3
  obtain ⟨c5, _, rfl, h5⟩ := cons_of h4
  obtain ⟨c6, _, rfl, h6⟩ := cons_of h5
  obtain ⟨c7, _, rfl, h7⟩ := cons_of h6
  obtain ⟨c8, _, rfl, h8⟩ := cons_of h7
  obtain ⟨c9, r, rfl, h9⟩ := cons_of h8
  cases r with
  | nil => exact ⟨c0, c1, c2, c3, c4, c5, c6, c7, c8, c9, rfl⟩
  | cons _ _ => cases h9

theorem slice_to {l : List Nat} (hl : l.length = 10) {k : Nat} (h1 : 1 ≤ k) (h9 : k ≤ 9) (t u : Tok) : sliceMade (tx l) t none (some ((k : Int), u)) none = .str (tx (l.take k)) := by
  obtain ⟨c0, c1, c2, c3, c4, c5, c6, c7, c8, c9, rfl⟩ := ten hl
  match k, h1, h9 with
  | 1, _, _ => rfl
  | 2, _, _ => rfl
  | 3, _, _ => rfl
  | 4, _, _ => rfl
  | 5, _, _ => rfl
  | 6, _, _ => rfl
  | 7, _, _ => rfl
  | 8, _, _ => rfl
  | 9, _, _ => rfl
  | k + 10, _, h => exact absurd h (by omega)

theorem ssi_from : ∀ k, k < 11 → PySem.Builtin.Str.strSliceIndices (some ((k : Nat) : Int)) none 1 10 = List.range' k (10 - k) := by decide +kernel

theorem slice_from {l : List Nat} (hl : l.length = 10) {k : Nat} (h1 : 1 ≤ k) (h9 : k ≤ 10) (t u : Tok) : sliceMade (tx l) t (some ((k : Int), u)) none none = .str (tx (l.drop k)) := by
  have hlen : (tx l).length = 10 := by simp [tx, Str.length, hl]
  have hp : slicePicked (tx l) (some ((k : Int), u)) none none = List.range' k (10 - k) := by
    show PySem.Builtin.Str.strSliceIndices (some (k : Int)) none 1 (tx l).length = _
    rw [hlen]; exact ssi_from k (by omega)
  unfold sliceMade
  rw [hp, hlen]
  obtain ⟨c0, c1, c2, c3, c4, c5, c6, c7, c8, c9, rfl⟩ := ten hl
  clear hp
  match k, h1, h9 with
  | 1, _, _ => rfl
  | 2, _, _ => rfl
  | 3, _, _ => rfl
  | 4, _, _ => rfl
  | 5, _, _ => rfl
  | 6, _, _ => rfl
  | 7, _, _ => rfl
  | 8, _, _ => rfl
  | 9, _, _ => rfl
  | 10, _, _ => rfl
  | k + 11, _, h => exact absurd h (by omega)

theorem tx_append (a b : List Nat) : tx a ++ tx b = tx (a ++ b) := by
  show Str.mk (a.toArray ++ b.toArray) = _
  simp [tx]

theorem slTo {value e : Expr} {p pos : Pos} {Q : Value → Shared → Prop} {s₀ : Shared}
    (hq : wpAny (model prog w) A (eval value env) (fun o s₁ => wpAny (model prog w) A (eval e env) (fun i s₂ =>
      ∃ l t k u h₂ tk₂, s₂ = st s h₂ tk₂ ∧ l.length = 10 ∧ o = .str (tx l) t ∧ i = .int (k : Nat) u ∧ 1 ≤ k ∧ k ≤ 9 ∧ ∀ h' t' tk', Ext None h₂ h' → Q (.str (tx (l.take k)) t') (st s h' tk')) E s₁) E s₀)
    (ht : ∀ o r, letTemporaryGo value o r = pure () := by intro _ _; rfl) :
    wpAny (model prog w) A (eval (.Subscript value (.Slice none (some e) none p) pos) env) Q E s₀ := by
  refine wpAny_Subscript_str_slice (wpAny_mono hq (fun o s₁ h₁ => wpAny_evalPart_none (wpAny_evalPart_some (wpAny_mono h₁ (fun i s₂ h₂ => ?_) fun _ _ x => x))) fun _ _ x => x) ht
  obtain ⟨l, t, k, u, h₂, tk₂, rfl, hl, rfl, rfl, h1, h9, hq⟩ := h₂
  refine ⟨tx l, t, none, some ((k : Int), u), rfl, rfl, rfl, ?_⟩
  rw [slice_to hl h1 h9]
  exact ⟨by simp [tx, Str.length, sizeLine_eq]; omega, hq _ _ _ Ext.push⟩

theorem slFrom {value e : Expr} {p pos : Pos} {Q : Value → Shared → Prop} {s₀ : Shared}
    (hq : wpAny (model prog w) A (eval value env) (fun o s₁ => wpAny (model prog w) A (eval e env) (fun i s₂ =>
      ∃ l t k u h₂ tk₂, s₂ = st s h₂ tk₂ ∧ l.length = 10 ∧ o = .str (tx l) t ∧ i = .int (k : Nat) u ∧ 1 ≤ k ∧ k ≤ 10 ∧ ∀ h' t' tk', Ext None h₂ h' → Q (.str (tx (l.drop k)) t') (st s h' tk')) E s₁) E s₀)
    (ht : ∀ o r, letTemporaryGo value o r = pure () := by intro _ _; rfl) :
    wpAny (model prog w) A (eval (.Subscript value (.Slice (some e) none none p) pos) env) Q E s₀ := by
  refine wpAny_Subscript_str_slice (wpAny_mono hq (fun o s₁ h₁ => wpAny_evalPart_some (wpAny_mono h₁ (fun i s₂ h₂ => wpAny_evalPart_none ?_) fun _ _ x => x)) fun _ _ x => x) ht
  obtain ⟨l, t, k, u, h₂, tk₂, rfl, hl, rfl, rfl, h1, h9, hq⟩ := h₂
  refine ⟨tx l, t, some ((k : Int), u), none, rfl, rfl, rfl, ?_⟩
  rw [slice_from hl h1 h9]
  exact ⟨by simp [tx, Str.length, sizeLine_eq]; omega, hq _ _ _ Ext.push⟩

theorem addS {x y : List Nat} {t u : Tok} {Q : Value → Shared → Prop} (hx : x.length ≤ 100) (hy : y.length ≤ 100) (hq : ∀ t' tk', Q (.str (tx (x ++ y)) t') (st s h tk')) :
    wpAny (model prog w) A (binaryOp .Add (.str (tx x) t) (.str (tx y) u)) Q E (st s h tk) :=
  PyProof.Rows.add_str (s := st s h tk) (fun t' k => by rw [tx_append]; exact hq t' k) (by simp [tx, Str.length, sizeLine_eq]; omega)
end

theorem occ_sign : ∀ p, p < 12 → ∀ c, c ∈ signL p → Builtin.Str.occurrences (signS p) ⟨#[c]⟩ 0 (signS p).length 1 = [(signL p).idxOf c] := by decide +kernel
end Mine
end

section
open PySem PySem.W PyProof.Rows
namespace Mine
open PySem.Calls SeqAt

section
variable {prog : Program} {w : World} {A : Around} {s : Shared} {h : Heap} {tk : Nat} {base : Heap} {mg mb : Str → Option Value}

theorem low_sign {p : Nat} (hp : p < 9) {t0 t1 t2 : Tok} : ∃ t', ([Value.str (Str.ofString "-xSsTt") t0, .str (Str.ofString "-w") t1, .str (Str.ofString "-r") t2].toArray)[((p : Int).fmod 3).toNat]? = some (.str (signS p) t') := by
  have : p = 0 ∨ p = 1 ∨ p = 2 ∨ p = 3 ∨ p = 4 ∨ p = 5 ∨ p = 6 ∨ p = 7 ∨ p = 8 := by omega
  rcases this with rfl | rfl | rfl | rfl | rfl | rfl | rfl | rfl | rfl <;> exact ⟨_, rfl⟩
theorem high_sign {p : Nat} (h9 : 9 ≤ p) (hp : p < 12) {t0 t1 t2 : Tok} : ∃ t', ([Value.str (Str.ofString "-Txt") t0, .str (Str.ofString "-Sxs") t1, .str (Str.ofString "-Sxs") t2].toArray)[((p : Int) - 9).toNat]? = some (.str (signS p) t') := by
  have : p = 9 ∨ p = 10 ∨ p = 11 := by omega
  rcases this with rfl | rfl | rfl <;> exact ⟨_, rfl⟩

set_option maxHeartbeats 4000000 in
theorem pairs_call {R : Result → Shared → Prop} {f : Addr} {o : Obj} {pm cd doc : Value} {p : Nat} {t : Tok} (G : Gl mg mb base)
    (K : ∀ b o, base.get? b = some o → h.get? b = some o) (hp : p < 12)
    (ho : base.get? f = some o) (hdata : o.data = .func (docDef dPairs.name dPairs.params dPairs.body dPairs.scope pm cd doc)) (hcd : base.CodeRec cd dPairs.name)
    (hroom : A.depth < recursionLimit)
    (hq : ∀ h' tk' T t1 t2, h'.IsTuple T #[.int (spotN p : Nat) t1, .str (signS p) t2] → Ext None h h' → R (.ok (.ret (.ref T))) (st s h' tk')) :
    codeAny (model prog w) A (.call (.ref f) ⟨[.int p t], []⟩) R (st s h tk) := by
  refine callF (d := dPairs) (X := None) (binds := [(Str.ofString "place", .int p t)]) G K (fun _ q => q.elim) (fun _ q => q.elim) (by omega) ho hdata hcd rfl (by intro x hx; simp at hx; subst hx; rfl) ?_
  intro L h₁ tk₁ F hE
  refine wpAny_execs_cons (wpAny_If (wpAny_isTrue_Compare1 (ldF F rfl (cI fun _ _ => lt_int (wpAny_truthy_bool (split_dec (fun hlt => ?_) fun hge => ?_))))))
  · have hlt' : p < 9 := by omega
    refine wpAny_execs_cons (wpAny_Return_some (tupleI (s := s) (args_cons (wpAny_BinOp (cI fun _ _ => ldF F rfl (subI fun t1 _ => ?_))))))
    refine args_cons (sub_tuple (tupleI (s := s) (args_cons (cS fun _ _ => args_cons (cS fun _ _ => args_cons (cS fun _ _ => args_nil ⟨_, _, rfl, by simp, fun h₂ a hT k₂ ha => ?_⟩))))))
    have F₂ := F.kept k₂
    obtain ⟨t', e⟩ := low_sign hlt'
    refine wpAny_BinOp (ldF F₂ rfl (cI fun _ _ => modI (by decide) fun _ _ => ⟨_, _, _, _, _, rfl, rfl, hT, by rw [Int.fmod_eq_emod_of_nonneg _ (by decide)]; omega, by rw [Int.fmod_eq_emod_of_nonneg _ (by decide)]; omega, ?_, e, ?_⟩))
    · show (p : Int).fmod 3 < 3
      rw [Int.fmod_eq_emod_of_nonneg _ (by decide)]; omega
    refine args_nil ⟨_, _, rfl, by simp, fun h₃ T hT₃ k₃ hT3 => ?_⟩
    have es : (9 : Int) - (p : Int) = (spotN p : Nat) := by unfold spotN; rw [if_pos hlt']; omega
    rw [es] at hT₃
    exact hq h₃ _ T _ _ hT₃ ((hE.trans k₂).trans k₃)
  · have hge' : 9 ≤ p := by omega
    refine wpAny_execs_nil (wpAny_execs_cons (wpAny_Return_some (tupleI (s := s) (args_cons (wpAny_BinOp (cI fun _ _ => wpAny_BinOp (cI fun _ _ => ldF F rfl (mulI (.of_left (by decide)) fun _ _ => subI fun t1 _ => ?_))))))))
    refine args_cons (sub_tuple (tupleI (s := s) (args_cons (cS fun _ _ => args_cons (cS fun _ _ => args_cons (cS fun _ _ => args_nil ⟨_, _, rfl, by simp, fun h₂ a hT k₂ ha => ?_⟩))))))
    have F₂ := F.kept k₂
    obtain ⟨t', e⟩ := high_sign hge' hp
    refine wpAny_BinOp (ldF F₂ rfl (cI fun _ _ => subI fun _ _ => ⟨_, _, _, _, _, rfl, rfl, hT, by omega, by omega, ?_, e, ?_⟩))
    · show (p : Int) - 9 < 3
      omega
    refine args_nil ⟨_, _, rfl, by simp, fun h₃ T hT₃ k₃ hT3 => ?_⟩
    have es : (36 : Int) - 3 * (p : Int) = (spotN p : Nat) := by unfold spotN; rw [if_neg (by omega)]; omega
    rw [es] at hT₃
    exact hq h₃ _ T _ _ hT₃ ((hE.trans k₂).trans k₃)
end
end Mine
end

section
open PySem PySem.W PyProof.Rows
namespace Mine
open PySem.Calls SeqAt

section
variable {prog : Program} {w : World} {A : Around} {s : Shared} {h : Heap} {tk : Nat} {base : Heap} {mg mb : Str → Option Value}

theorem sign_turn : ∀ p, p < 12 → ∀ c, c ∈ signL p → (signL p)[(signL p).idxOf c + 1 - (signL p).idxOf c % 2 * 2]? = some (turnC p c) := by decide +kernel
theorem sign_len : ∀ p, p < 12 → (signL p).length ≤ 6 := by decide +kernel
theorem rowL_len (t : Nat) (b : Nat → Bool) : (rowL t b).length = 10 := rfl
theorem spot_ok {p : Nat} (hp : p < 12) : 1 ≤ spotN p ∧ spotN p ≤ 9 := by unfold spotN; split <;> omega
theorem row_get {p : Nat} (hp : p < 12) (t : Nat) (b : Nat → Bool) : (rowS t b).cps[((spotN p : Nat) : Int).toNat]? = some ((rowL t b).getD (spotN p) 0) := by
  have := spot_ok hp
  have e : ((spotN p : Nat) : Int).toNat = spotN p := by omega
  rw [e]
  show (rowL t b).toArray[spotN p]? = _
  rw [List.getElem?_toArray, List.getD_eq_getElem?_getD, List.getElem?_eq_getElem (by rw [rowL_len]; omega)]; rfl
theorem row_cut {p : Nat} (hp : p < 12) (t : Nat) (b : Nat → Bool) (c : Nat) : (rowL t b).take (spotN p) ++ [c] ++ (rowL t b).drop (spotN p + 1) = (rowL t b).set (spotN p) c := by
  have := spot_ok hp
  rw [List.set_eq_take_append_cons_drop, if_pos (by rw [rowL_len]; omega), List.append_assoc]; rfl

set_option maxHeartbeats 4000000 in
theorem turned_call {R : Result → Shared → Prop} {f : Addr} {o : Obj} {pm cd doc : Value} {p t : Nat} {b : Nat → Bool} {u1 u2 : Tok} (G : Gl mg mb base)
    (K : ∀ b o, base.get? b = some o → h.get? b = some o) (hp : p < 12)
    (ho : base.get? f = some o) (hdata : o.data = .func (docDef dTurned.name dTurned.params dTurned.body dTurned.scope pm cd doc)) (hcd : base.CodeRec cd dTurned.name)
    (hroom : A.depth + 1 < recursionLimit) (hh : A.handled = none)
    (hq : ∀ h' tk' t', Ext None h h' → R (.ok (.ret (.str (rowS t (flipB b p)) t'))) (st s h' tk')) :
    codeAny (model prog w) A (.call (.ref f) ⟨[.str (rowS t b) u1, .int p u2], []⟩) R (st s h tk) := by
  refine callF (d := dTurned) (X := None) (binds := [(Str.ofString "text", .str (rowS t b) u1), (Str.ofString "place", .int p u2)]) G K (fun _ q => q.elim) (fun _ q => q.elim) (by omega) ho hdata hcd rfl (locs rfl) ?_
  intro L h₁ tk₁ F hE
  have hh' : (A.deeper (envOf dTurned.name dTurned.scope L f cd)).handled = none := hh
  have hsp := spot_ok hp
  obtain ⟨hc, hset⟩ := turn_row hp t b
  generalize hcc : (rowL t b).getD (spotN p) 0 = c at hc hset
  refine wpAny_execs_cons (Assign_Tuple (Call_ (glF (d := dPairs) F G (by simp [defs]) fun a o' pm' code' doc' g1 g2 g3 g4 => ?_)))
  refine callWith_def g3 (args_cons (ldF F rfl (args_nil ⟨F.based _ _ g2, wpAny_call ?_⟩)))
  refine pairs_call G F.based hp g2 g3 g4 (by show A.depth + 1 < _; omega) fun h₂ tk₂ T t1 t2 hT k₂ => ?_
  have F₂ := F.kept k₂
  refine asgPair hh' hT fun h₃ k₃ => wpAny_assign_Name (stF (F₂.kept k₃) fun h₄ _ F₄ _ => wpAny_assign_Name (stF F₄ fun h₅ _ F₅ _ => ?_))
  -- k = signs.index(text[spot])
  refine wpAny_execs_cons (wpAny_Assign_Name (MethodCall_ (ldF F₅ rfl (GM.index (callWith_method1 (args_cons (sub_str (s := s) (ldF F₅ rfl (ldF F₅ rfl ⟨_, _, _, _, c, h₅, _, rfl, rfl, rfl, by omega, by omega, ?_, ?_, fun _ _ => args_nil ?_⟩))))))))) 
  · show ((spotN p : Nat) : Int) < (10 : Int)
    omega
  · rw [row_get hp, hcc]
  refine SC.index (i := (signL p).idxOf c) (rest := []) (occ_sign p hp c hc) ?_
  refine stF (s := s) (h := h₅) F₅ fun h₆ _ F₆ _ => ?_
  have hidx : (signL p).idxOf c < (signL p).length := List.idxOf_lt_length_iff.mpr hc
  have hlen := sign_len p hp
  have hst := sign_turn p hp c hc
  generalize hi : (signL p).idxOf c = i at hidx hst F₆
  have hj : i + 1 - i % 2 * 2 < (signL p).length := by
    apply Nat.lt_of_not_le; intro q
    rw [List.getElem?_eq_none q] at hst; cases hst
  have ej : (i : Int) + 1 - (i : Int).fmod 2 * 2 = ((i + 1 - i % 2 * 2 : Nat) : Int) := by rw [Int.fmod_eq_emod_of_nonneg _ (by decide)]; omega
  refine wpAny_execs_cons (wpAny_Return_some (wpAny_BinOp (wpAny_BinOp (slTo (s := s) (ldF F₆ rfl (ldF F₆ rfl ⟨rowL t b, _, spotN p, _, h₆, _, rfl, rfl, rfl, rfl, hsp.1, hsp.2, fun h₇ _ _ k₇ => ?_⟩))))))
  have F₇ := F₆.kept k₇
  refine sub_str (s := s) (ldF F₇ rfl (wpAny_BinOp (wpAny_BinOp (ldF F₇ rfl (cI fun _ _ => addI fun _ _ => ?_)))))
  refine wpAny_BinOp (wpAny_BinOp (ldF F₇ rfl (cI fun _ _ => modI (by decide) fun _ _ => ?_)))
  refine cI fun _ _ => mulI (.of_right (by decide)) fun _ _ => subI fun _ _ => ?_
  refine ⟨_, _, _, _, turnC p c, h₇, _, rfl, rfl, rfl, by rw [ej]; omega, by rw [ej]; omega, ?_, ?_, fun _ _ => ?_⟩
  · show _ < ((signL p).toArray.size : Int)
    rw [ej, List.size_toArray]; omega
  · rw [ej, Int.toNat_natCast]
    show (signL p).toArray[_]? = _
    rw [List.getElem?_toArray]; exact hst
  refine addS (y := [turnC p c]) (by rw [List.length_take]; omega) (by simp) fun _ _ => ?_
  refine slFrom (s := s) (ldF F₇ rfl (wpAny_BinOp (ldF F₇ rfl (cI fun _ _ => addI fun _ _ => ⟨rowL t b, _, spotN p + 1, _, h₇, _, rfl, rfl, rfl, rfl, by omega, by omega, fun h₈ _ _ k₈ => ?_⟩))))
  refine addS (by rw [List.length_append, List.length_take]; simp; omega) (by rw [List.length_drop, rowL_len]; omega) fun _ _ => ?_
  rw [row_cut hp, hset]
  exact hq _ _ _ (F₇.kept k₈).keep

theorem occ_xst : ∀ p, p < 12 → ∀ c, c ∈ signL p → (!(Builtin.Str.occurrences (Str.ofString "xst") ⟨#[c]⟩ 0 (Str.ofString "xst").length 1).isEmpty) = [120, 115, 116].contains c := by decide +kernel

theorem neB {E : Value → Shared → Prop} {a b : Bool} {Q : Value → Shared → Prop} (hq : Q (.bool (a != b)) (st s h tk)) : wpAny (model prog w) A (compareOp .NotEq (.bool a) (.bool b)) Q E (st s h tk) :=
  RcNeAt.bool_bool (s := st s h tk) (A := A) a b prog w E Q hq

set_option maxHeartbeats 4000000 in
theorem down_call {R : Result → Shared → Prop} {f : Addr} {o : Obj} {pm cd doc : Value} {p t : Nat} {b : Nat → Bool} {u1 u2 : Tok} (G : Gl mg mb base)
    (K : ∀ b o, base.get? b = some o → h.get? b = some o) (hp : p < 12)
    (ho : base.get? f = some o) (hdata : o.data = .func (docDef dDown.name dDown.params dDown.body dDown.scope pm cd doc)) (hcd : base.CodeRec cd dDown.name)
    (hroom : A.depth + 1 < recursionLimit) (hh : A.handled = none)
    (hq : ∀ h' tk', Ext None h h' → R (.ok (.ret (.bool (dnB b p)))) (st s h' tk')) :
    codeAny (model prog w) A (.call (.ref f) ⟨[.str (rowS t b) u1, .int p u2], []⟩) R (st s h tk) := by
  refine callF (d := dDown) (X := None) (binds := [(Str.ofString "text", .str (rowS t b) u1), (Str.ofString "place", .int p u2)]) G K (fun _ q => q.elim) (fun _ q => q.elim) (by omega) ho hdata hcd rfl (locs rfl) ?_
  intro L h₁ tk₁ F hE
  have hh' : (A.deeper (envOf dDown.name dDown.scope L f cd)).handled = none := hh
  have hsp := spot_ok hp
  have hc := (turn_row hp t b).1
  have hdn := down_row hp t b
  generalize hcc : (rowL t b).getD (spotN p) 0 = c at hc hdn
  refine wpAny_execs_cons (Assign_Tuple (Call_ (glF (d := dPairs) F G (by simp [defs]) fun a o' pm' code' doc' g1 g2 g3 g4 => ?_)))
  refine callWith_def g3 (args_cons (ldF F rfl (args_nil ⟨F.based _ _ g2, wpAny_call ?_⟩)))
  refine pairs_call G F.based hp g2 g3 g4 (by show A.depth + 1 < _; omega) fun h₂ tk₂ T t1 t2 hT k₂ => ?_
  have F₂ := F.kept k₂
  refine asgPair hh' hT fun h₃ k₃ => wpAny_assign_Name (stF (F₂.kept k₃) fun h₄ _ F₄ _ => wpAny_assign_Name (stF F₄ fun h₅ _ F₅ _ => ?_))
  refine wpAny_execs_cons (wpAny_Assign_Name (wpAny_Compare1 (wpAny_BinOp (MethodCall_ (ldF F₅ rfl (GM.index (callWith_method1 (args_cons (sub_str (s := s) (ldF F₅ rfl (ldF F₅ rfl ⟨_, _, _, _, c, h₅, _, rfl, rfl, rfl, by omega, by omega, ?_, ?_, fun _ _ => args_nil ?_⟩))))))))))) 
  · show ((spotN p : Nat) : Int) < (10 : Int)
    omega
  · rw [row_get hp, hcc]
  refine SC.index (i := (signL p).idxOf c) (rest := []) (occ_sign p hp c hc) ?_
  refine cI (s := s) (h := h₅) fun _ _ => modI (by decide) fun _ _ => cI fun _ _ => eq_int ?_
  refine stF (s := s) (h := h₅) F₅ fun h₆ _ F₆ _ => ?_
  have e0 : (((signL p).idxOf c : Int).fmod 2 == 0) = decide ((signL p).idxOf c % 2 = 0) := by
    rw [Int.fmod_eq_emod_of_nonneg _ (by decide), Bool.eq_iff_iff]
    simp only [beq_iff_eq, decide_eq_true_eq]; omega
  refine wpAny_execs_cons (wpAny_Return_some (wpAny_Compare1 (ldF F₆ rfl (wpAny_And2 (wpAny_Compare1 (ldF F₆ rfl (cI fun _ _ => gt_int (wpAny_truthy_bool ?_))))))))
  by_cases h8 : 8 < p
  · have e1 : decide (8 < (p : Int)) = true := decide_eq_true (by omega)
    rw [e1, if_pos rfl]
    refine wpAny_Compare1 (sub_str (s := s) (ldF F₆ rfl (ldF F₆ rfl ⟨_, _, _, _, c, h₆, _, rfl, rfl, rfl, by omega, by omega, ?_, ?_, fun _ _ => cS fun _ _ => in_str ?_⟩)))
    · show ((spotN p : Nat) : Int) < (10 : Int)
      omega
    · rw [row_get hp, hcc]
    refine neB ?_
    rw [occ_xst p hp c hc, e0, show ((decide ((signL p).idxOf c % 2 = 0)) != ([120, 115, 116].contains c)) = dnB b p by rw [← hdn, decide_eq_true h8, Bool.true_and]]
    exact hq _ _ F₆.keep
  · have e1 : decide (8 < (p : Int)) = false := decide_eq_false (by omega)
    rw [e1, if_neg (by decide)]
    refine neB ?_
    rw [e0, show ((decide ((signL p).idxOf c % 2 = 0)) != false) = dnB b p by rw [← hdn, decide_eq_false h8, Bool.false_and]]
    exact hq _ _ F₆.keep
end
end Mine
end

section
open PySem PySem.W PyProof.Rows
namespace Mine
open PySem.Calls SeqAt

section
variable {prog : Program} {w : World} {A : Around} {s : Shared} {h : Heap} {tk : Nat} {base : Heap} {mg mb : Str → Option Value}

theorem powI {E : Value → Shared → Prop} {p : Nat} {t u : Tok} {Q : Value → Shared → Prop} (hp : p < 100) (hq : ∀ t tk', Q (.int (2 ^ p) t) (st s h tk')) :
    wpAny (model prog w) A (binaryOp .Pow (.int 2 t) (.int (p : Nat) u)) Q E (st s h tk) :=
  pow_int_small (s := st s h tk) (by omega) (by omega) (by decide) (by rw [Int.toNat_natCast]; exact hq _ _)
theorem pow_ok : ∀ p, p < 14 → (2 : Int) ^ p ≠ 0 ∧ ((2 : Int) ^ p).natAbs < 1073741824 ∧ (0 : Int) ≤ 2 ^ p ∧ Builtin.Int.intBits ((2 : Int) ^ p) ≤ 64 := by decide +kernel
theorem tch_get : ∀ n, n < 16 → (Str.ofString "?pc?d?b?-?l?s???").cps[n]? = some (tch (n : Nat)) := by decide +kernel

abbrev RowI (s : Shared) (base h : Heap) (L : Addr) (m : Int) (u : Tok) (T : Nat) (I : Addr) (j : Nat) (s' : Shared) : Prop :=
  ∃ h' tk' b t', s' = st s h' tk' ∧ Fm base None h L h' [(Str.ofString "mode", .int m u), (Str.ofString "text", .str (rowS T b) t')] ∧ j ≤ 12 ∧
    (∀ i, i < 12 → b i = (decide (i < 12 - j) && bt m i)) ∧ IsRangeIter h' I ((12 - j : Nat) : Int) j 1

set_option maxHeartbeats 4000000 in
theorem row_call {R : Result → Shared → Prop} {f : Addr} {o : Obj} {pm cd doc : Value} {m : Int} {u : Tok} (G : Gl mg mb base)
    (K : ∀ b o, base.get? b = some o → h.get? b = some o)
    (ho : base.get? f = some o) (hdata : o.data = .func (docDef dRow.name dRow.params dRow.body dRow.scope pm cd doc)) (hcd : base.CodeRec cd dRow.name)
    (hroom : A.depth + 2 < recursionLimit) (hh : A.handled = none)
    (hq : ∀ h' tk' t', Ext None h h' → R (.ok (.ret (.str (rowM m) t'))) (st s h' tk')) :
    codeAny (model prog w) A (.call (.ref f) ⟨[.int m u], []⟩) R (st s h tk) := by
  refine callF (d := dRow) (X := None) (binds := [(Str.ofString "mode", .int m u)]) G K (fun _ q => q.elim) (fun _ q => q.elim) (by omega) ho hdata hcd rfl (locs rfl) ?_
  intro L h₁ tk₁ F hE
  have hh' : (A.deeper (envOf dRow.name dRow.scope L f cd)).handled = none := hh
  have e1 : (m.fdiv 4096).fmod 16 = m / 4096 % 16 := by rw [Int.fdiv_eq_ediv_of_nonneg _ (by decide), Int.fmod_eq_emod_of_nonneg _ (by decide)]
  have b0 : 0 ≤ m / 4096 % 16 := by omega
  have b1 : m / 4096 % 16 < 16 := by omega
  have ht := tch_get (m / 4096 % 16).toNat (by omega)
  rw [show (((m / 4096 % 16).toNat : Nat) : Int) = m / 4096 % 16 by omega] at ht
  generalize hT : tch (m / 4096 % 16) = T at ht
  refine wpAny_execs_cons (wpAny_Assign_Name (wpAny_BinOp (sub_str (s := s) (cS fun _ _ => wpAny_BinOp (wpAny_BinOp (ldF F rfl (cI fun _ _ => fdivI (by decide) (by decide) fun _ _ => cI fun _ _ => modI (by decide) fun _ _ =>
    ⟨_, _, _, _, T, h₁, _, rfl, rfl, rfl, by rw [e1]; exact b0, by rw [e1]; omega, ?_, by rw [e1]; exact ht, fun _ _ => cS fun _ _ => ?_⟩)))))))
  · rw [e1]; exact b1
  refine addS (x := [T]) (y := [45, 45, 45, 45, 45, 45, 45, 45, 45]) (by simp) (by simp) fun _ _ => ?_
  refine stF F fun h₂ _ F₂ _ => ?_
  refine wpAny_execs_cons (wpAny_For (Call_ (blF F₂ G (by decide) boot_range (callWith_type1 (args_cons (cI fun _ _ => args_nil ?_))))))
  refine rng1 fun h₃ r _ _ _ hr k₃ _ => iterR (n := 12) hr (by omega) (by omega) (by omega) (by omega) (by omega) fun h₄ I hI k₄ hIn => ?_
  have F₃ := F₂.kept k₃
  have hIo := F₃.new hIn
  have F₄ := F₃.kept k₄
  refine codeAny_forLoop (RowI s base h L m u T I) ?turn 12
    ⟨h₄, _, fun _ => false, _, rfl, F₄.sub ⟨rfl, rfl, trivial⟩, Nat.le_refl _, fun i _ => by simp, by rw [show ((12 - 12 : Nat) : Int) = 0 by omega]; exact hI⟩
  rintro j s' ⟨h₅, tk₅, b, t₅, rfl, F₅, hj, hb, hI₅⟩
  rcases Nat.eq_zero_or_pos j with rfl | hj0
  · refine endR hh' hI₅ (by omega) fun h₆ k₆ => wpAny_execs_nil ?_
    have F₆ := F₅.own k₆ hIo.1 hIo.2
    refine wpAny_execs_cons (wpAny_Return_some (ldF F₆ rfl ?_))
    have er : rowS T b = rowM m := by
      unfold rowM rowS
      rw [hT]
      exact congrArg tx (rowL_congr fun i hi => by rw [hb i hi]; simp [hi])
    rw [er]
    exact hq _ _ _ F₆.keep
  · refine nextR hI₅ (by omega) fun h₆ t₆ tk₆ hI₆ k₆ => ?_
    have F₆ := F₅.own k₆ hIo.1 hIo.2
    generalize hp : 12 - j = p at *
    have hp12 : p < 12 := by omega
    obtain ⟨w1, w2, w3, _⟩ := pow_ok p (by omega)
    have e2 : (m.fdiv (2 ^ p)).fmod 2 = m / 2 ^ p % 2 := by rw [Int.fdiv_eq_ediv_of_nonneg _ w3, Int.fmod_eq_emod_of_nonneg _ (by decide)]
    refine wpAny_assign_Name (stF F₆ fun h₇ _ F₇ hs₇ => ?_)
    have hI₇ := IsRangeIter.ext hI₆ (sbExt hs₇) hIo.2
    refine hide fun Q₁ e₁ => ?_
    have nx : ∀ s', (∃ n, n < j ∧ RowI s base h L m u T I n s') → Q₁ .next s' := by subst e₁; exact fun _ z => z
    clear e₁
    refine wpAny_execs_cons (wpAny_If (wpAny_isTrue_Compare1 (wpAny_BinOp (wpAny_BinOp (ldF F₇ rfl (wpAny_BinOp (cI fun _ _ => ldF F₇ rfl (powI (by omega) fun _ _ => fdivI w1 w2 fun _ _ => cI fun _ _ => modI (by decide) fun _ _ => cI fun _ _ => eq_int (wpAny_truthy_bool ?_)))))))))
    rw [e2]
    have fin : ∀ (b' : Nat → Bool) h' tk' t', Fm base None h L h' [(Str.ofString "mode", .int m u), (Str.ofString "text", .str (rowS T b') t')] → IsRangeIter h' I ((p : Int) + 1) (j - 1) 1 → (∀ i, i < 12 → b' i = (decide (i < p + 1) && bt m i)) →
        Q₁ .next (st s h' tk') := by
      intro b' h' tk' t' F' I' hb'
      refine nx _ ⟨j - 1, by omega, h', tk', b', t', rfl, F', by omega, fun i hi => by rw [hb' i hi, show 12 - (j - 1) = p + 1 by omega], ?_⟩
      rw [show ((12 - (j - 1) : Nat) : Int) = (p : Int) + 1 by omega, show ((j - 1 : Nat) : Int) = (j : Int) - 1 by omega]
      exact I'
    cases hbit : (m / 2 ^ p % 2 == 1) with
    | true =>
      refine wpAny_execs_cons (wpAny_Assign_Name (Call_ (glF (d := dTurned) F₇ G (by simp [defs]) fun a o' pm' code' doc' g1 g2 g3 g4 => ?_)))
      refine callWith_def g3 (args_cons (ldF F₇ rfl (args_cons (ldF F₇ rfl (args_nil ⟨F₇.based _ _ g2, wpAny_call ?_⟩)))))
      refine turned_call G F₇.based hp12 g2 g3 g4 (by show A.depth + 1 + 1 < _; omega) hh fun h₈ tk₈ t₈ k₈ => ?_
      have hI₈ := IsRangeIter.ext hI₇ k₈ id
      refine stF (F₇.kept k₈) fun h₉ _ F₉ hs₉ => wpAny_execs_nil (wpAny_execs_nil (fin (flipB b p) _ _ _ (F₉.sub ⟨rfl, rfl, trivial⟩) (IsRangeIter.ext hI₈ (sbExt hs₉) hIo.2) fun i hi => ?_))
      have hbt : bt m p = true := by unfold bt; simpa using hbit
      unfold flipB
      by_cases hip : i = p
      · subst hip; rw [if_pos rfl, hb i hi, hbt]; simp
      · rw [if_neg hip, hb i hi]
        congr 1
        exact decide_eq_decide.mpr (by omega)
    | false =>
      refine wpAny_execs_nil (wpAny_execs_nil (fin b _ _ _ (F₇.sub ⟨rfl, rfl, trivial⟩) hI₇ fun i hi => ?_))
      have hbt : bt m p = false := by unfold bt; simpa using hbit
      by_cases hip : i = p
      · subst hip; rw [hb i hi, hbt]; simp
      · rw [hb i hi]
        congr 1
        exact decide_eq_decide.mpr (by omega)
end
end Mine
end

section
open PySem PySem.W PyProof.Rows
namespace Mine

theorem and_dbl (x z : Int) : Builtin.bitAnd x (2 * z) = 2 * Builtin.bitAnd (x / 2) z := by
  rw [kbt_halves x (2 * z), show 2 * z / 2 = z by omega, if_neg (by omega)]; omega

theorem div_two_pow (x : Int) (a : Nat) : x / 2 / 2 ^ a = x / 2 ^ (a + 1) := by
  rw [Int.ediv_ediv_of_nonneg (by decide), Int.pow_succ, Int.mul_comm]

theorem and_pow : ∀ (a : Nat) (x z : Int), Builtin.bitAnd x (2 ^ a * z) = 2 ^ a * Builtin.bitAnd (x / 2 ^ a) z
  | 0, x, z => by rw [Int.pow_zero, Int.one_mul, Int.one_mul, Int.ediv_one]
  | a + 1, x, z => by
    have e : (2 : Int) ^ (a + 1) = 2 * 2 ^ a := by rw [Int.pow_succ, Int.mul_comm]
    rw [e, Int.mul_assoc, and_dbl, and_pow a, div_two_pow, e, Int.mul_assoc]

theorem bit_hit (m : Int) (k : Nat) : (Builtin.bitAnd m (2 ^ k) == 2 ^ k) = bt m k := by
  rw [kbt_bit, Bool.eq_iff_iff]
  have hp : (0 : Int) < 2 ^ k := Int.pow_pos (by decide)
  unfold bt
  simp only [beq_iff_eq, decide_eq_true_eq]
  rcases Int.emod_two_eq (m / 2 ^ k) with e | e <;> rw [e] <;> omega

theorem odd_hit (y w : Int) : (Builtin.bitAnd y (1 + 2 * w) == 1 + 2 * w) = (decide (y % 2 = 1) && (Builtin.bitAnd (y / 2) w == w)) := by
  rw [kbt_halves y (1 + 2 * w), show (1 + 2 * w) / 2 = w by omega, show (1 + 2 * w) % 2 = 1 by omega, Bool.eq_iff_iff]
  generalize Builtin.bitAnd (y / 2) w = q
  simp only [beq_iff_eq, Bool.and_eq_true, decide_eq_true_eq, and_true]
  split <;> omega

/-- two bits at once -/
theorem two_hit (m : Int) (a k : Nat) (M : Int) (hM : M = 2 ^ a * (1 + 2 * 2 ^ k)) : (Builtin.bitAnd m M == M) = (bt m a && bt m (a + 1 + k)) := by
  have hp : (2 : Int) ^ a ≠ 0 := Int.ne_of_gt (Int.pow_pos (by decide))
  have e : (Builtin.bitAnd m M == M) = (Builtin.bitAnd (m / 2 ^ a) (1 + 2 * 2 ^ k) == 1 + 2 * 2 ^ k) := by
    rw [hM, and_pow, Bool.eq_iff_iff]
    simp only [beq_iff_eq]
    exact ⟨fun h => Int.eq_of_mul_eq_mul_left hp h, fun h => congrArg _ h⟩
  rw [e, odd_hit, bit_hit]
  unfold bt
  rw [div_two_pow, Int.ediv_ediv_of_nonneg (Int.le_of_lt (Int.pow_pos (by decide))), ← Int.pow_add, show a + (k + 1) = a + 1 + k by omega]

theorem and_type (m : Int) : Builtin.bitAnd m 61440 = 4096 * (m / 4096 % 16) := by
  rw [show (61440 : Int) = 2 ^ 12 * 15 by decide, and_pow, bitAnd_m4]
  have : (2 : Int) ^ 12 = 4096 := by decide
  rw [this]

def tabL : List (List (Int × Nat)) := [[(40960, 108), (49152, 115), (32768, 45), (24576, 98), (16384, 100), (8192, 99), (4096, 112)], [(256, 114)], [(128, 119)], [(2112, 115), (2048, 83), (64, 120)],
  [(32, 114)], [(16, 119)], [(1032, 115), (1024, 83), (8, 120)], [(4, 114)], [(2, 119)], [(513, 116), (512, 84), (1, 120)]]
def hitB (i : Nat) (m : Int) (b : Int) : Bool := if i = 0 then Builtin.bitAnd m 61440 == b else Builtin.bitAnd m b == b
def pickC (i : Nat) (m : Int) : List (Int × Nat) → Nat
  | [] => if i = 0 then 63 else 45
  | (b, c) :: r => if hitB i m b then c else pickC i m r

theorem hit_bit {i : Nat} (hi : i ≠ 0) (m : Int) (b : Int) (k : Nat) (hb : b = 2 ^ k) : hitB i m b = bt m k := by
  unfold hitB
  rw [if_neg hi, hb, bit_hit]
theorem hit_two {i : Nat} (hi : i ≠ 0) (m b : Int) : hitB i m b = (Builtin.bitAnd m b == b) := by
  unfold hitB
  rw [if_neg hi]

theorem pick_types : ∀ n : Nat, n < 16 → (if (4096 * (n : Int) == 40960) then 108 else if (4096 * (n : Int) == 49152) then 115 else if (4096 * (n : Int) == 32768) then 45 else if (4096 * (n : Int) == 24576) then 98 else if (4096 * (n : Int) == 16384) then 100 else if (4096 * (n : Int) == 8192) then 99 else if (4096 * (n : Int) == 4096) then 112 else 63) = tch (n : Int) := by decide +kernel

theorem pick_type (m : Int) : pickC 0 m (tabL.getD 0 []) = tch (m / 4096 % 16) := by
  have hh : ∀ b, hitB 0 m b = (4096 * (m / 4096 % 16) == b) := fun b => by unfold hitB; rw [if_pos rfl, and_type]
  simp only [tabL, List.getD_cons_zero, pickC, hh]
  obtain ⟨n, hn⟩ : ∃ n : Nat, m / 4096 % 16 = n := ⟨(m / 4096 % 16).toNat, by omega⟩
  rw [hn]
  exact pick_types n (by omega)

theorem pick_row (m : Int) : ∀ i, i < 10 → pickC i m (tabL.getD i []) = (rowL (tch (m / 4096 % 16)) (bt m)).getD i 0 := by
  intro i hi
  match i, hi with
  | 0, _ =>
    rw [pick_type]; rfl
  | 1, _ =>
    show (if hitB 1 m 256 then 114 else if 1 = 0 then 63 else 45) = chB (bt m 8) 114
    rw [hit_bit (by decide) m 256 8 (by decide)]; rfl
  | 2, _ =>
    show (if hitB 2 m 128 then 119 else if 2 = 0 then 63 else 45) = chB (bt m 7) 119
    rw [hit_bit (by decide) m 128 7 (by decide)]; rfl
  | 3, _ =>
    show (if hitB 3 m 2112 then 115 else if hitB 3 m 2048 then 83 else if hitB 3 m 64 then 120 else if 3 = 0 then 63 else 45) = chX (bt m 6) (bt m 11) 115
    rw [hit_two (by decide), two_hit m 6 4 2112 (by decide), hit_bit (by decide) m 2048 11 (by decide), hit_bit (by decide) m 64 6 (by decide)]
    cases bt m 6 <;> cases bt m 11 <;> rfl
  | 4, _ =>
    show (if hitB 4 m 32 then 114 else if 4 = 0 then 63 else 45) = chB (bt m 5) 114
    rw [hit_bit (by decide) m 32 5 (by decide)]; rfl
  | 5, _ =>
    show (if hitB 5 m 16 then 119 else if 5 = 0 then 63 else 45) = chB (bt m 4) 119
    rw [hit_bit (by decide) m 16 4 (by decide)]; rfl
  | 6, _ =>
    show (if hitB 6 m 1032 then 115 else if hitB 6 m 1024 then 83 else if hitB 6 m 8 then 120 else if 6 = 0 then 63 else 45) = chX (bt m 3) (bt m 10) 115
    rw [hit_two (by decide), two_hit m 3 6 1032 (by decide), hit_bit (by decide) m 1024 10 (by decide), hit_bit (by decide) m 8 3 (by decide)]
    cases bt m 3 <;> cases bt m 10 <;> rfl
  | 7, _ =>
    show (if hitB 7 m 4 then 114 else if 7 = 0 then 63 else 45) = chB (bt m 2) 114
    rw [hit_bit (by decide) m 4 2 (by decide)]; rfl
  | 8, _ =>
    show (if hitB 8 m 2 then 119 else if 8 = 0 then 63 else 45) = chB (bt m 1) 119
    rw [hit_bit (by decide) m 2 1 (by decide)]; rfl
  | 9, _ =>
    show (if hitB 9 m 513 then 116 else if hitB 9 m 512 then 84 else if hitB 9 m 1 then 120 else if 9 = 0 then 63 else 45) = chX (bt m 0) (bt m 9) 116
    rw [hit_two (by decide), two_hit m 0 8 513 (by decide), hit_bit (by decide) m 512 9 (by decide), hit_bit (by decide) m 1 0 (by decide)]
    cases bt m 0 <;> cases bt m 9 <;> rfl
  | i + 10, h => omega
end Mine
end

section
open PySem PySem.W PyProof.Rows
namespace Mine
open PySem.Calls SeqAt

/-! ## the table -/
def PairAt (h : Heap) (a : Addr) (x : Int × Nat) : Prop := ∃ t u, h.IsTuple a #[.int x.1 t, .str (tx [x.2]) u]
def RowT (h : Heap) (a : Addr) (l : List (Int × Nat)) : Prop := ∃ ps : Array Addr, h.IsTuple a (ps.map Value.ref) ∧ ps.size = l.length ∧ ∀ j, j < l.length → PairAt h (fAt ps j) (l.getD j (0, 0))
def TabT (h : Heap) (a : Addr) : Prop := ∃ rs : Array Addr, h.IsTuple a (rs.map Value.ref) ∧ rs.size = 10 ∧ ∀ i, i < 10 → RowT h (fAt rs i) (tabL.getD i [])
def TabG (mg : Str → Option Value) (h : Heap) : Prop := ∃ T, mg (Str.ofString "_filemode_table") = some (.ref T) ∧ TabT h T

theorem IsTuple.keeps {h h' : Heap} {a : Addr} {x : Array Value} (i : h.IsTuple a x) (k : ∀ b o, h.get? b = some o → h'.get? b = some o) : h'.IsTuple a x :=
  let ⟨o, ho, r⟩ := i; ⟨o, k _ _ ho, r⟩
theorem TupIter.ext {X : Addr → Prop} {h h' : Heap} {a t : Addr} {i : Nat} (x : h.IsTupleIter a t i) (k : Ext X h h') (hx : ¬ X a) : h'.IsTupleIter a t i := x.at fun o ho => k _ _ hx ho
theorem IsEnum.ext {X : Addr → Prop} {h h' : Heap} {e it : Addr} {i : Int} {old : Value} (x : IsEnum h e it i old) (k : Ext X h h') (hx : ¬ X e) : IsEnum h' e it i old := k _ _ hx x

section
variable {prog : Program} {w : World} {A : Around} {E : Value → Shared → Prop} {s : Shared} {h : Heap} {tk : Nat} {name : Str} {scope : Scope} {L a : Addr} {cd : Value} {base h₀ : Heap} {X : Addr → Prop} {vars : List (Str × Value)} {mg mb : Str → Option Value}

/-- a name of the module -/
theorem gvF {x : Str} {v : Value} {pos : Pos} {Q : Value → Shared → Prop} (F : Fm base X h₀ L h vars) (G : Gl mg mb base) (hv : mg x = some v)
    (hq : Q v (st s h tk))
    (hk : scope.kind = .function := by rfl) (hx : (envOf name scope L a cd).kindOf x = some .globalImplicit := by rfl)
    (hdb : (x == ("__debug__" : Str)) = false := by decide) : wpAny (model prog w) A (eval (.Name x pos) (envOf name scope L a cd)) Q E (st s h tk) :=
  Name_function_global hk hx (loadGlobal_global (s := st s h tk) (env := envOf name scope L a cd) (G.g.keeps F.based) hv hq) hdb

theorem iterT {t : Addr} {items : Array Value} {Q : Value → Shared → Prop} (ht : h.IsTuple t items) (hq : ∀ h' I, h'.IsTupleIter I t 0 → Ext None h h' → h.objs.size ≤ I → Q (.ref I) (st s h' tk)) :
    wpAny (model prog w) A (pyIter (.ref t)) Q E (st s h tk) :=
  wpAny_pyIter_tuple (s := st s h tk) ht (hq _ _ ⟨_, Heap.get?_push_size _ rfl, rfl, rfl⟩ Ext.push (Nat.le_refl _))
theorem nextT {it t : Addr} {i : Nat} {items : Array Value} {x : Value} {Q : Option Value → Shared → Prop} (hit : h.IsTupleIter it t i) (ht : h.IsTuple t items) (hx : items[i]? = some x)
    (hq : ∀ h', h'.IsTupleIter it t (i + 1) → Ext (One it) h h' → Q (some x) (st s h' tk)) : wpAny (model prog w) A (pyNext (.ref it)) Q E (st s h tk) :=
  wpAny_pyNext_tuple_item (s := st s h tk) hit ht hx fun h' a b => hq h' a (sbExt b)
theorem endT {it t : Addr} {i : Nat} {items : Array Value} {Q : Option Value → Shared → Prop} (hh : A.handled = none) (hit : h.IsTupleIter it t i) (ht : h.IsTuple t items) (hx : items[i]? = none)
    (hq : ∀ h', Ext (One it) h h' → Q none (st s h' tk)) : wpAny (model prog w) A (pyNext (.ref it)) Q E (st s h tk) :=
  wpAny_pyNext_tuple_end (s := st s h tk) hh hit ht hx fun h' e => hq h' (Ext.of_extBut e)

/-- xs.append(e) -/
theorem appendP {l : Addr} {items : Array Value} {x : Value} {Q : Value → Shared → Prop} (hl : h.PlainList l items) (hsz : items.size ≤ 100)
    (hq : ∀ h', h'.PlainList l (items.push x) → Ext (One l) h h' → Q .none (st s h' tk)) : wpAny (model prog w) A (call (.builtin "list.append") [.ref l, x]) Q E (st s h tk) :=
  wpAny_list_append_plain (s := st s h tk) hl (fun h' a b => hq h' a (sbExt b)) (by rw [sizeLine_eq]; omega)

theorem ifmt_call {R : Result → Shared → Prop} {f : Addr} {o : Obj} {pm cd doc : Value} {m : Int} {u : Tok} (G : Gl mg mb base)
    (K : ∀ b o, base.get? b = some o → h.get? b = some o)
    (ho : base.get? f = some o) (hdata : o.data = .func (docDef dIfmt.name dIfmt.params dIfmt.body dIfmt.scope pm cd doc)) (hcd : base.CodeRec cd dIfmt.name)
    (hroom : A.depth < recursionLimit)
    (hq : ∀ h' tk' t', Ext None h h' → R (.ok (.ret (.int (Builtin.bitAnd m 61440) t'))) (st s h' tk')) :
    codeAny (model prog w) A (.call (.ref f) ⟨[.int m u], []⟩) R (st s h tk) := by
  refine callF (d := dIfmt) (X := None) (binds := [(Str.ofString "mode", .int m u)]) G K (fun _ q => q.elim) (fun _ q => q.elim) (by omega) ho hdata hcd rfl (locs rfl) ?_
  intro L h₁ tk₁ F hE
  exact wpAny_execs_cons (wpAny_Return_some (wpAny_BinOp (ldF F rfl (cI fun _ _ => andI fun _ _ => hq _ _ _ hE))))
end

theorem refs_getN {ps : Array Addr} {i : Nat} (hi : i < ps.size) : (ps.map Value.ref)[i]? = some (.ref (fAt ps i)) := by
  rw [Array.getElem?_map, Array.getElem?_eq_getElem hi]
  unfold fAt
  rw [Array.getD_eq_getD_getElem?, Array.getElem?_eq_getElem hi]; rfl
theorem refs_none {ps : Array Addr} {i : Nat} (hi : ps.size ≤ i) : (ps.map Value.ref)[i]? = none := by
  rw [Array.getElem?_map, Array.getElem?_eq_none hi]; rfl

def sgs (m : Int) (i : Nat) : List Str := (List.range i).map fun j => tx [pickC j m (tabL.getD j [])]
theorem sgs_succ (m : Int) (i : Nat) : sgs m (i + 1) = sgs m i ++ [tx [pickC i m (tabL.getD i [])]] := by
  unfold sgs; rw [List.range_succ, List.map_append]; rfl
theorem sgs_join (m : Int) : Txt.join (Str.ofString "") (sgs m 10) = rowM m ∧ JoinOk (Str.ofString "") (sgs m 10) = true := by
  have e : sgs m 10 = (List.range 10).map fun j => tx [(rowL (tch (m / 4096 % 16)) (bt m)).getD j 0] := by
    unfold sgs
    refine List.map_congr_left fun j hj => ?_
    rw [pick_row m j (List.mem_range.mp hj)]
  rw [e]
  exact ⟨rfl, rfl⟩
theorem strs_push (l : List (Str × Tok)) (x : Str) (t : Tok) : (strValues l).toArray.push (.str x t) = (strValues (l ++ [(x, t)])).toArray := by simp [strValues]
theorem drop_pick {i : Nat} {m : Int} {l : List (Int × Nat)} {j : Nat} (hj : j < l.length) :
    pickC i m (l.drop j) = if hitB i m (l.getD j (0, 0)).1 then (l.getD j (0, 0)).2 else pickC i m (l.drop (j + 1)) := by
  rw [List.drop_eq_getElem_cons hj, List.getD_eq_getElem?_getD, List.getElem?_eq_getElem hj]
  rfl
end Mine
end

section
open PySem PySem.W PyProof.Rows
namespace Mine
open PySem.Calls SeqAt

section
variable {prog : Program} {w : World} {A : Around} {s : Shared} {h : Heap} {tk : Nat} {base : Heap} {mg mb : Str → Option Value}

/-- what the outer loop keeps -/
structure Its (h' : Heap) (e it T P : Addr) (i : Nat) (l : List (Str × Tok)) : Prop where
  en : ∃ old, IsEnum h' e it i old
  it : h'.IsTupleIter it T i
  ls : h'.PlainList P (strValues l).toArray
theorem Its.ext {X : Addr → Prop} {h h' : Heap} {e it T P : Addr} {i : Nat} {l : List (Str × Tok)} (x : Its h e it T P i l) (k : Ext X h h') (h1 : ¬ X e) (h2 : ¬ X it) (h3 : ¬ X P) : Its h' e it T P i l :=
  ⟨let ⟨o, z⟩ := x.en; ⟨o, IsEnum.ext z k h1⟩, TupIter.ext x.it k h2, PlainList.ext x.ls k h3⟩

theorem Fm.own' {base h₀ h h' : Heap} {X Y : Addr → Prop} {L : Addr} {vars : List (Str × Value)} (F : Fm base X h₀ L h vars) (k : Ext Y h h') (hY : ∀ b, Y b → h₀.objs.size ≤ b ∧ b ≠ L) : Fm base X h₀ L h' vars :=
  ⟨let ⟨m, hn, hm⟩ := F.ns; ⟨m, hn.at' fun o e => k L o (fun q => (hY L q).2 rfl) e, hm⟩, fun b o hb e => k b o (fun q => Nat.not_lt.mpr (hY b q).1 (Heap.lt_size e)) (F.keep b o hb e), F.above, F.base₀, F.hX, F.hXL⟩

abbrev OutI (s : Shared) (base h : Heap) (L : Addr) (m : Int) (u : Tok) (P e it T : Addr) (n : Nat) (s' : Shared) : Prop :=
  ∃ h' tk' l, s' = st s h' tk' ∧ Fm base None h L h' [(Str.ofString "mode", .int m u), (Str.ofString "perm", .ref P)] ∧ n ≤ 10 ∧ Its h' e it T P (10 - n) l ∧ l.map (·.1) = sgs m (10 - n)
abbrev InnI (s : Shared) (base h : Heap) (L : Addr) (m : Int) (u : Tok) (P e it T J B : Addr) (i z : Nat) (t : Tok) (l : List (Str × Tok)) (k : Nat) (s' : Shared) : Prop :=
  ∃ h' tk', s' = st s h' tk' ∧ Fm base None h L h' [(Str.ofString "mode", .int m u), (Str.ofString "perm", .ref P), (Str.ofString "index", .int i t), (Str.ofString "table", .ref B)] ∧
    Its h' e it T P (i + 1) l ∧ k ≤ z ∧ h'.IsTupleIter J B (z - k) ∧ pickC i m (tabL.getD i []) = pickC i m ((tabL.getD i []).drop (z - k))

set_option maxHeartbeats 8000000 in
theorem filemode_call {R : Result → Shared → Prop} {f : Addr} {o : Obj} {pm cd doc : Value} {m : Int} {u : Tok} (G : Gl mg mb base) (GT : TabG mg base)
    (K : ∀ b o, base.get? b = some o → h.get? b = some o)
    (ho : base.get? f = some o) (hdata : o.data = .func (docDef dFilemode.name dFilemode.params dFilemode.body dFilemode.scope pm cd doc)) (hcd : base.CodeRec cd dFilemode.name)
    (hroom : A.depth + 1 < recursionLimit) (hh : A.handled = none)
    (hq : ∀ h' tk' t', Ext None h h' → R (.ok (.ret (.str (rowM m) t'))) (st s h' tk')) :
    codeAny (model prog w) A (.call (.ref f) ⟨[.int m u], []⟩) R (st s h tk) := by
  obtain ⟨T, hTg, rs, hTt, hrs, hrow⟩ := GT
  refine callF (d := dFilemode) (X := None) (binds := [(Str.ofString "mode", .int m u)]) G K (fun _ q => q.elim) (fun _ q => q.elim) (by omega) ho hdata hcd rfl (locs rfl) ?_
  intro L h₁ tk₁ F hE
  have hh' : (A.deeper (envOf dFilemode.name dFilemode.scope L f cd)).handled = none := hh
  -- perm = []
  refine wpAny_execs_cons (wpAny_Assign_Name (listNil fun h₂ P hP k₂ hPn => ?_))
  have hPo := F.new hPn
  have hP2 : P < h₂.objs.size := by obtain ⟨_, e⟩ := hP; exact Heap.lt_size e
  refine stF (F.kept k₂) fun h₃ _ F₃ hs₃ => ?_
  have hP₃ := SameBut.list hs₃ hP hPo.2
  have hP3 : P < h₃.objs.size := by obtain ⟨_, e⟩ := hP₃; exact Heap.lt_size e
  refine wpAny_execs_cons (wpAny_For (Call_ (blF F₃ G (by decide) boot_enumerate (callWith_type1 (args_cons (gvF F₃ G hTg (args_nil (enumT (IsTuple.keeps hTt F₃.based) fun h₄ e it he₄ hit₄ k₄ hitn hite => ?_))))))))
  refine wpAny_pyIter_enum (s := st s h₄ _) he₄ ?_
  have hIo := F₃.new hitn
  have heo := F₃.new (Nat.le_trans hitn (Nat.le_of_lt hite))
  have hPit : P < it := Nat.lt_of_lt_of_le hP3 hitn
  have hPe : P < e := Nat.lt_trans hPit hite
  refine codeAny_forLoop_any (OutI s base h L m u P e it T) ?turn 10
    ⟨h₄, _, [], rfl, (F₃.kept k₄).sub ⟨rfl, rfl, trivial⟩, Nat.le_refl _, by rw [Nat.sub_self]; exact ⟨⟨_, he₄⟩, hit₄, PlainList.ext hP₃ k₄ id⟩, rfl⟩
  rintro n s' ⟨h₅, tk₅, l, rfl, F₅, hn, I₅, hl⟩
  rcases Nat.eq_zero_or_pos n with rfl | hn0
  · obtain ⟨old, he⟩ := I₅.en
    refine endE hh' he I₅.it (IsTuple.keeps hTt F₅.based) (refs_none (by omega)) fun h₆ k₆ => wpAny_execs_nil ?_
    have F₆ := F₅.own k₆ hIo.1 hIo.2
    have hP₆ := PlainList.ext I₅.ls k₆ (Nat.ne_of_lt hPit)
    refine wpAny_execs_cons (wpAny_Return_some (MethodCall_ (cS fun _ _ => GM.join (callWith_method1 (args_cons (ldF F₆ rfl (args_nil ?_)))))))
    obtain ⟨j1, j2⟩ := sgs_join m
    refine SC.join (l := l) (s := st s h₆ _) hP₆.isList hl j2 fun t' k => ?_
    rw [j1]
    exact hq h₆ k t' F₆.keep
  · generalize hi : 10 - n = i at *
    have hi10 : i < 10 := by omega
    obtain ⟨old, he⟩ := I₅.en
    obtain ⟨ps, hps, hpl, hpair⟩ := hrow i hi10
    refine nextE he I₅.it (IsTuple.keeps hTt F₅.based) (refs_getN (by omega)) (Nat.ne_of_gt hite) fun h₆ a tk₆ t₆ he₆ hit₆ ha₆ han k₆ => ?_
    refine wpAny_letOwnedTupleGo_enum (s := st s h₆ tk₆) he₆ fun h₇ he₇ hs₇ => ?_
    have hPlt : P < h₅.objs.size := by obtain ⟨_, q⟩ := I₅.ls; exact Heap.lt_size q
    have ha7 : a ≠ e := Nat.ne_of_gt (Nat.lt_of_lt_of_le (Heap.lt_size he) han)
    have k₇ : Ext (One e) h₆ h₇ := sbExt hs₇
    have F₇ : Fm base None h L h₇ _ := (F₅.own' k₆ (by rintro b (rfl | rfl) <;> first | exact heo | exact hIo)).own k₇ heo.1 heo.2
    have I₇ : Its h₇ e it T P (i + 1) l := ⟨⟨_, he₇⟩, TupIter.ext hit₆ k₇ (Nat.ne_of_lt hite), PlainList.ext (PlainList.ext I₅.ls k₆ (by rintro (q | q) <;> first | exact Nat.ne_of_lt hPe q | exact Nat.ne_of_lt hPit q)) k₇ (Nat.ne_of_lt hPe)⟩
    have ha₇ : h₇.IsTuple a _ := IsTuple.ext ha₆ k₇ ha7
    refine asgPair (s := s) (h := h₇) hh' ha₇ fun h₈ k₈ => wpAny_assign_Name (stF (F₇.kept k₈) fun h₉ _ F₉ hs₉ => wpAny_assign_Name (stF F₉ fun h₁₀ _ F₁₀ hs₁₀ => ?_))
    have I₈ := I₇.ext k₈ id id id
    have I₉ := I₈.ext (sbExt hs₉) heo.2 hIo.2 hPo.2
    have I₁₀ := I₉.ext (sbExt hs₁₀) heo.2 hIo.2 hPo.2
    -- the turn's end
    have fin : ∀ {vars : List (Str × Value)} (h' : Heap) (tk' : Nat) (t' : Tok), Fm base None h L h' vars → vars.lookup (Str.ofString "mode") = some (.int m u) → vars.lookup (Str.ofString "perm") = some (.ref P) →
        Its h' e it T P (i + 1) (l ++ [(tx [pickC i m (tabL.getD i [])], t')]) → ∃ n', n' < n ∧ OutI s base h L m u P e it T n' (st s h' tk') := by
      intro vars h' tk' t' F' v1 v2 I'
      refine ⟨n - 1, by omega, h', tk', _, rfl, F'.sub ⟨v1, v2, trivial⟩, by omega, by rw [show 10 - (n - 1) = i + 1 by omega]; exact I', ?_⟩
      rw [show 10 - (n - 1) = i + 1 by omega, sgs_succ, List.map_append, hl]; rfl
    have psh : ∀ {h' h'' : Heap} {t' : Tok}, Its h' e it T P (i + 1) l → h''.PlainList P ((strValues l).toArray.push (.str (tx [pickC i m (tabL.getD i [])]) t')) → Ext (One P) h' h'' → Its h'' e it T P (i + 1) (l ++ [(tx [pickC i m (tabL.getD i [])], t')]) := by
      intro h' h'' t' I' p' k'
      rw [strs_push] at p'
      exact ⟨let ⟨o, z⟩ := I'.en; ⟨o, IsEnum.ext z k' (Nat.ne_of_gt hPe)⟩, TupIter.ext I'.it k' (Nat.ne_of_gt hPit), p'⟩
    have hlz : (strValues l).toArray.size ≤ 100 := by
      have : l.length = i := by rw [← List.length_map (f := (·.1)), hl]; simp [sgs]
      simp [strValues, this]; omega
    -- for bit, char in table
    refine hide fun Q₁ e₁ => ?_
    replace fin : ∀ {vars : List (Str × Value)} (h' : Heap) (tk' : Nat) (t' : Tok), Fm base None h L h' vars → vars.lookup (Str.ofString "mode") = some (.int m u) → vars.lookup (Str.ofString "perm") = some (.ref P) →
        Its h' e it T P (i + 1) (l ++ [(tx [pickC i m (tabL.getD i [])], t')]) → Q₁ .next (st s h' tk') := by subst e₁; exact fin
    clear e₁
    refine wpAny_execs_cons (wpAny_For (ldF F₁₀ rfl (iterT (IsTuple.keeps hps F₁₀.based) fun h₁₁ J hJ kJ hJn => ?_)))
    have hJo := F₁₀.new hJn
    have hPJ : P ≠ J := Nat.ne_of_lt (Nat.lt_of_lt_of_le (by obtain ⟨_, q⟩ := I₁₀.ls; exact Heap.lt_size q) hJn)
    have heJ : e ≠ J := Nat.ne_of_lt (Nat.lt_of_lt_of_le (by obtain ⟨_, q⟩ := I₁₀.en; exact Heap.lt_size q) hJn)
    have hiJ : it ≠ J := Nat.ne_of_lt (Nat.lt_of_lt_of_le (by obtain ⟨_, q, _⟩ := I₁₀.it; exact Heap.lt_size q) hJn)
    refine codeAny_forLoop_any (InnI s base h L m u P e it T J (fAt rs i) i ps.size t₆ l) ?inner ps.size
      ⟨h₁₁, _, rfl, (F₁₀.kept kJ).sub ⟨rfl, rfl, rfl, rfl, trivial⟩, I₁₀.ext kJ id id id, Nat.le_refl _, by rw [Nat.sub_self]; exact hJ, by rw [Nat.sub_self]; rfl⟩
    rintro k s' ⟨h₁₂, tk₁₂, rfl, F₁₂, I₁₂, hk, hJ₁₂, hpk⟩
    rcases Nat.eq_zero_or_pos k with rfl | hk0
    · -- the loop's else
      refine endT hh' hJ₁₂ (IsTuple.keeps hps F₁₂.based) (refs_none (by omega)) fun h₁₃ k₁₃ => ?_
      have F₁₃ := F₁₂.own k₁₃ hJo.1 hJo.2
      have I₁₃ := I₁₂.ext k₁₃ heJ hiJ hPJ
      have hp0 : pickC i m (tabL.getD i []) = if i = 0 then 63 else 45 := by
        rw [hpk, Nat.sub_zero, List.drop_eq_nil_of_le (by omega)]; rfl
      refine wpAny_execs_cons (wpAny_If (wpAny_isTrue_Compare1 (ldF F₁₃ rfl (cI fun _ _ => eq_int (wpAny_truthy_bool ?_)))))
      by_cases i0 : i = 0
      · have ei : ((i : Int) == 0) = true := by simp [i0]
        rw [ei]
        rw [if_pos i0] at hp0
        refine wpAny_execs_cons (wpAny_Expr (MethodCall_ (ldF F₁₃ rfl (methP PySem.F.slot_list_append PySem.F.type_list_append I₁₃.ls (callWith_method1 (args_cons (cS fun t' _ => args_nil (appendP I₁₃.ls hlz fun h₁₄ p₁₄ k₁₄ => ?_))))))))
        refine wpAny_execs_nil (wpAny_execs_nil (wpAny_execs_nil (fin h₁₄ _ t' (F₁₃.own k₁₄ hPo.1 hPo.2) rfl rfl (psh I₁₃ ?_ k₁₄))))
        rw [hp0]; exact p₁₄
      · have ei : ((i : Int) == 0) = false := by simp [i0]
        rw [ei]
        rw [if_neg i0] at hp0
        refine wpAny_execs_cons (wpAny_Expr (MethodCall_ (ldF F₁₃ rfl (methP PySem.F.slot_list_append PySem.F.type_list_append I₁₃.ls (callWith_method1 (args_cons (cS fun t' _ => args_nil (appendP I₁₃.ls hlz fun h₁₄ p₁₄ k₁₄ => ?_))))))))
        refine wpAny_execs_nil (wpAny_execs_nil (wpAny_execs_nil (fin h₁₄ _ t' (F₁₃.own k₁₄ hPo.1 hPo.2) rfl rfl (psh I₁₃ ?_ k₁₄))))
        rw [hp0]; exact p₁₄
    · generalize hj : ps.size - k = j at *
      have hjl : j < (tabL.getD i []).length := by omega
      obtain ⟨tb, tc, hpr⟩ := hpair j hjl
      have hdp := drop_pick (i := i) (m := m) hjl
      rw [← hpk] at hdp
      generalize hxb : (tabL.getD i []).getD j (0, 0) = x at hpr hdp
      obtain ⟨xb, xc⟩ := x
      refine nextT hJ₁₂ (IsTuple.keeps hps F₁₂.based) (refs_getN (by omega)) fun h₁₃ hJ₁₃ k₁₃ => ?_
      have F₁₃ := F₁₂.own k₁₃ hJo.1 hJo.2
      have I₁₃ := I₁₂.ext k₁₃ heJ hiJ hPJ
      refine letGo_tupleiter (s' := st s h₁₃ _) hJ₁₃ ?_
      refine asgPair (s := s) (h := h₁₃) hh' (IsTuple.keeps hpr F₁₃.based) fun h₁₄ k₁₄ => wpAny_assign_Name (stF (F₁₃.kept k₁₄) fun h₁₅ _ F₁₅ hs₁₅ => wpAny_assign_Name (stF F₁₅ fun h₁₆ _ F₁₆ hs₁₆ => ?_))
      have I₁₆ := ((I₁₃.ext k₁₄ id id id).ext (sbExt hs₁₅) heo.2 hIo.2 hPo.2).ext (sbExt hs₁₆) heo.2 hIo.2 hPo.2
      have hJ₁₆ := TupIter.ext (TupIter.ext (TupIter.ext hJ₁₃ k₁₄ id) (sbExt hs₁₅) hJo.2) (sbExt hs₁₆) hJo.2
      have go : ∀ {vars : List (Str × Value)} (h' : Heap) (tk' : Nat), Fm base None h L h' vars → vars.lookup (Str.ofString "mode") = some (.int m u) → vars.lookup (Str.ofString "perm") = some (.ref P) → vars.lookup (Str.ofString "index") = some (.int i t₆) → vars.lookup (Str.ofString "table") = some (.ref (fAt rs i)) →
          Its h' e it T P (i + 1) l → h'.IsTupleIter J (fAt rs i) (j + 1) → hitB i m xb = false → ∃ k', k' < k ∧ InnI s base h L m u P e it T J (fAt rs i) i ps.size t₆ l k' (st s h' tk') := by
        intro vars h' tk' F' v1 v2 v3 v4 I' J' hno
        refine ⟨k - 1, by omega, h', tk', rfl, F'.sub ⟨v1, v2, v3, v4, trivial⟩, I', by omega, by rw [show ps.size - (k - 1) = j + 1 by omega]; exact J', ?_⟩
        rw [show ps.size - (k - 1) = j + 1 by omega]
        rw [hno] at hdp; exact hdp
      refine hide fun Q₂ e₂ => ?_
      replace go : ∀ {vars : List (Str × Value)} (h' : Heap) (tk' : Nat), Fm base None h L h' vars → vars.lookup (Str.ofString "mode") = some (.int m u) → vars.lookup (Str.ofString "perm") = some (.ref P) → vars.lookup (Str.ofString "index") = some (.int i t₆) → vars.lookup (Str.ofString "table") = some (.ref (fAt rs i)) →
          Its h' e it T P (i + 1) l → h'.IsTupleIter J (fAt rs i) (j + 1) → hitB i m xb = false → Q₂ .next (st s h' tk') := by subst e₂; exact go
      have fin₂ : ∀ {vars : List (Str × Value)} (h' : Heap) (tk' : Nat) (t' : Tok), Fm base None h L h' vars → vars.lookup (Str.ofString "mode") = some (.int m u) → vars.lookup (Str.ofString "perm") = some (.ref P) →
        Its h' e it T P (i + 1) (l ++ [(tx [pickC i m (tabL.getD i [])], t')]) → Q₂ .brk (st s h' tk') := by subst e₂; exact fun h' tk' t' z1 z2 z3 z4 => wpAny_execs_nil (fin h' tk' t' z1 z2 z3 z4)
      clear e₂
      refine wpAny_execs_cons (wpAny_If (wpAny_isTrue_Compare1 (ldF F₁₆ rfl (cI fun _ _ => eq_int (wpAny_truthy_bool ?_)))))
      by_cases i0 : i = 0
      · have ei : ((i : Int) == 0) = true := by simp [i0]
        rw [ei]
        refine wpAny_execs_cons (wpAny_If (wpAny_isTrue_Compare1 (Call_ (glF (d := dIfmt) F₁₆ G (by simp [defs]) fun a' o' pm' code' doc' g1 g2 g3 g4 => ?_))))
        refine callWith_def g3 (args_cons (ldF F₁₆ rfl (args_nil ⟨F₁₆.based _ _ g2, wpAny_call ?_⟩)))
        refine ifmt_call G F₁₆.based g2 g3 g4 (by show A.depth + 1 < _; omega) fun h₁₇ tk₁₇ t₁₇ k₁₇ => ?_
        have F₁₇ := F₁₆.kept k₁₇
        have I₁₇ := I₁₆.ext k₁₇ id id id
        have hJ₁₇ := TupIter.ext hJ₁₆ k₁₇ id
        have eh : (Builtin.bitAnd m 61440 == xb) = hitB i m xb := by unfold hitB; rw [if_pos i0]
        refine ldF F₁₇ rfl (eq_int (wpAny_truthy_bool ?_))
        show _
        rw [eh]
        cases hb : hitB i m xb with
        | true =>
          rw [hb, if_pos rfl] at hdp
          refine wpAny_execs_cons (wpAny_Expr (MethodCall_ (ldF F₁₇ rfl (methP PySem.F.slot_list_append PySem.F.type_list_append I₁₇.ls (callWith_method1 (args_cons (ldF F₁₇ rfl (args_nil (appendP I₁₇.ls hlz fun h₁₈ p₁₈ k₁₈ => ?_)))))))))
          refine wpAny_execs_cons (wpAny_Break ?_)
          refine (fin₂ h₁₈ _ tc (F₁₇.own k₁₈ hPo.1 hPo.2) rfl rfl (psh I₁₇ ?_ k₁₈))
          rw [hdp]; exact p₁₈
        | false => exact wpAny_execs_nil (wpAny_execs_nil (wpAny_execs_nil (go h₁₇ _ F₁₇ rfl rfl rfl rfl I₁₇ hJ₁₇ hb)))
      · have ei : ((i : Int) == 0) = false := by simp [i0]
        rw [ei]
        have eh : (Builtin.bitAnd m xb == xb) = hitB i m xb := by unfold hitB; rw [if_neg i0]
        refine wpAny_execs_cons (wpAny_If (wpAny_isTrue_Compare1 (wpAny_BinOp (ldF F₁₆ rfl (ldF F₁₆ rfl (andI fun _ _ => ldF F₁₆ rfl (eq_int (wpAny_truthy_bool ?_))))))))
        show _
        rw [eh]
        cases hb : hitB i m xb with
        | true =>
          rw [hb, if_pos rfl] at hdp
          refine wpAny_execs_cons (wpAny_Expr (MethodCall_ (ldF F₁₆ rfl (methP PySem.F.slot_list_append PySem.F.type_list_append I₁₆.ls (callWith_method1 (args_cons (ldF F₁₆ rfl (args_nil (appendP I₁₆.ls hlz fun h₁₈ p₁₈ k₁₈ => ?_)))))))))
          refine wpAny_execs_cons (wpAny_Break ?_)
          refine (fin₂ h₁₈ _ tc (F₁₆.own k₁₈ hPo.1 hPo.2) rfl rfl (psh I₁₆ ?_ k₁₈))
          rw [hdp]; exact p₁₈
        | false => exact wpAny_execs_nil (wpAny_execs_nil (wpAny_execs_nil (go h₁₆ _ F₁₆ rfl rfl rfl rfl I₁₆ hJ₁₆ hb)))
end
end Mine
end

section
open PySem PySem.W PyProof.Rows
namespace Mine
open PySem.Calls SeqAt

/-- D lies behind all that h holds -/
def Newer (h : Heap) (D : Addr) : Prop := ∀ b o, h.get? b = some o → b < D
theorem Newer.of {h h' : Heap} {D : Addr} (k : Ext None h h') (hD : h'.objs.size ≤ D) : Newer h D := fun b o e => Nat.lt_of_lt_of_le (Heap.lt_size (k b o id e)) hD
theorem Newer.back {h h' : Heap} {D : Addr} (k : Ext None h h') (hD : Newer h' D) : Newer h D := fun b o e => hD b o (k b o id e)
theorem FmC.newer {base h₀ h : Heap} {X : Addr → Prop} {L : Addr} {cs : List (Str × Addr)} {vars cv : List (Str × Value)} (F : FmC base X h₀ L cs h vars cv) {D : Addr} (hD : Newer h D) : h₀.objs.size ≤ D ∧ ¬ Pv L cs D := by
  obtain ⟨m, hn, _⟩ := F.fm.ns
  have hL : L < D := by
    obtain ⟨_, _, _, ho, _⟩ := id hn
    exact hD _ _ ho
  refine ⟨Nat.le_trans F.fm.above (Nat.le_of_lt hL), fun q => ?_⟩
  rcases q with rfl | ⟨n, hm⟩
  · exact Nat.lt_irrefl _ hL
  · obtain ⟨cm, C, _⟩ := F.cl
    obtain ⟨o, ho, _⟩ := C.cell n D hm
    exact Nat.lt_irrefl _ (hD _ _ ho)

section
variable {prog : Program} {w : World} {A : Around} {E : Value → Shared → Prop} {s : Shared} {h : Heap} {tk : Nat} {env : Env}

theorem Ext.push2 {h : Heap} {o o' : Obj} : Ext None h ((h.push o).push o') := Ext.push.trans Ext.push

theorem sliceL {value : Expr} {lower upper : Option Expr} {p pos : Pos} {Q : Value → Shared → Prop} {s₀ : Shared}
    (hq : wpAny (model prog w) A (eval value env) (fun o s₁ => wpAny (model prog w) A (evalPart lower env) (fun vl s₂ => wpAny (model prog w) A (evalPart upper env) (fun vu s₃ =>
      ∃ l items lo hi h₃ tk₃, s₃ = st s h₃ tk₃ ∧ o = .ref l ∧ h₃.IsList l items ∧ items.size ≤ 100 ∧ IsPart vl lo ∧ IsPart vu hi ∧
        ∀ h' D, h'.PlainList D (slicePick items lo hi none) → Ext None h₃ h' → h₃.objs.size ≤ D → Q (.ref D) (st s h' tk₃)) E s₂) E s₁) E s₀)
    (ht : ∀ o r, letTemporaryGo value o r = pure () := by intro _ _; rfl) :
    wpAny (model prog w) A (eval (.Subscript value (.Slice lower upper none p) pos) env) Q E s₀ := by
  refine wpAny_Subscript_list_slice (wpAny_mono hq (fun o s₁ h₁ => wpAny_mono h₁ (fun vl s₂ h₂ => wpAny_mono h₂ (fun vu s₃ h₃ => ?_) fun _ _ e => e) fun _ _ e => e) fun _ _ e => e) ht
  obtain ⟨l, items, lo, hi, h₃, tk₃, rfl, rfl, hl, hsz, pl, pu, hq⟩ := h₃
  refine ⟨l, items, lo, hi, rfl, hl, by rw [sizeLine_eq]; omega, pl, pu, ?_⟩
  have e1 := Heap.get?_push_size (h₃.push { cls := .type "slice", data := .fields #[vl, vu, .none] }) (o := { cls := .type "list", data := .seq (slicePick items lo hi none) }) rfl
  rw [Heap.size_push] at e1
  exact hq _ _ ⟨0, e1⟩ Ext.push2 (Nat.le_succ _)

theorem addL {l b : Addr} {xs ys : Array Value} {Q : Value → Shared → Prop} (hl : h.IsList l xs) (hb : h.IsList b ys) (hsz : xs.size + ys.size ≤ 100)
    (hq : ∀ h' D, h'.PlainList D (xs ++ ys) → Ext None h h' → h.objs.size ≤ D → Q (.ref D) (st s h' tk)) :
    wpAny (model prog w) A (binaryOp .Add (.ref l) (.ref b)) Q E (st s h tk) := by
  obtain ⟨⟨cls, dd, data, sl⟩, ho, hc, n, hd⟩ := id hl
  obtain ⟨⟨cls2, dd2, data2, sl2⟩, ho2, hc2, n2, hd2⟩ := id hb
  simp only at hc hd hc2 hd2
  subst hc hd hc2 hd2
  refine concat_meets (s := st s h tk) ⟨_, ho, rfl⟩ ⟨_, ho2, rfl⟩ noFill_list_add seq_list_add PySem.F.slot_list_add PySem.F.entry_list_add (PySem.F.args_list_add_2 _ _) (list_addW l b xs ys n n2 dd dd2 sl sl2 (by rw [sizeLine_eq]; omega)) ⟨ho, ho2, ?_⟩
  exact hq _ _ ⟨_, Heap.get?_push_size _ rfl⟩ Ext.push (Nat.le_refl _)

theorem listL {l : Addr} {xs : Array Value} {Q : Value → Shared → Prop} (hl : h.IsList l xs) (hsz : xs.size ≤ 100)
    (hq : ∀ h' D, h'.PlainList D xs → Ext None h h' → h.objs.size ≤ D → Q (.ref D) (st s h' tk)) :
    wpAny (model prog w) A (call (.type "list") [.ref l]) Q E (st s h tk) := by
  obtain ⟨o, ho, hc, n, hd⟩ := hl
  exact call_list_seq (s := st s h tk) l (.inl rfl) ho hc hd (fun h' c k e => hq h' _ ⟨c, e⟩ (fun b o _ x => k b o x) (Nat.le_refl _)) (by rw [sizeLine_eq]; omega)

theorem sumL {l : Addr} {vs : List Value} {ns : List Int} {Q : Value → Shared → Prop} (hh : A.handled = none) (hl : h.IsList l vs.toArray) (hi : IntsAre vs ns)
    (hq : ∀ h' tk' t', Ext None h h' → Q (.int ns.sum t') (st s h' tk')) : wpAny (model prog w) A (call (.builtin "sum") [.ref l]) Q E (st s h tk) := by
  obtain ⟨xs, hx⟩ := hi.allInts.items
  have hl' : h.IsList l (intItems xs) := hx ▸ hl
  refine sum_intListG (s := st s h tk) hh hl' fun h' tk t' hk => ?_
  have e1 : ns = xs.toList.map (·.1) := by
    rw [← nums_intItems, ← hx]
    exact (show numsOf vs.toArray.toList = ns from hi.numsOf).symm
  have e2 : preSum (numAt xs) xs.size = ns.sum := by
    rw [preSum_eq, List.take_of_length_le (by simp), e1]
  rw [e2]
  exact hq _ _ _ fun b o _ x => hk b o x

theorem listOne {e : Expr} {pos : Pos} {Q : Value → Shared → Prop} {s₀ : Shared}
    (hq : wpAny (model prog w) A (eval e env) (fun v s₁ => ∃ h₁ tk₁, s₁ = st s h₁ tk₁ ∧ ∀ h' D, h'.PlainList D #[v] → Ext None h₁ h' → h₁.objs.size ≤ D → Q (.ref D) (st s h' tk₁)) E s₀)
    (he : starEach [e] env = (false, eval e env) :: starEach [] env := by rfl) :
    wpAny (model prog w) A (eval (.List [e] pos) env) Q E s₀ := by
  refine wpAny_List (wpAny_items_cons (he := he) (wpAny_mono hq (fun v s₁ h₁ => ?_) fun _ _ x => x))
  obtain ⟨h₁, tk₁, rfl, hq⟩ := h₁
  exact wpAny_items_nil ⟨by simp [sizeLine_eq], hq _ _ ⟨_, Heap.get?_push_size _ rfl⟩ Ext.push (Nat.le_refl _)⟩

theorem cutSet {items : Array Value} {p : Nat} (v : Value) (hp : p < items.size) : (items.toList.take p).toArray ++ #[v] ++ (items.toList.drop (p + 1)).toArray = items.setIfInBounds p v := by
  apply Array.toList_inj.mp
  rw [Array.toList_setIfInBounds, List.set_eq_take_append_cons_drop, if_pos (by simpa using hp)]
  simp

/-- X[:which] + [e] + X[which + 1:] -/
theorem splice {eX eX' eW eW' e1 : Expr} {pos q1 q2 q3 q4 q5 q6 q7 q8 : Pos} {k1 : Nat} {l : Addr} {items : Array Value} {p : Nat} {P : Value → Heap → Prop} {Q : Value → Shared → Prop}
    (hl : h.IsList l items) (hp : p < items.size) (hsz : items.size ≤ 40)
    (hX : ∀ h' tk' Q, Ext None h h' → Q (.ref l) (st s h' tk') → wpAny (model prog w) A (eval eX env) Q E (st s h' tk'))
    (hX' : ∀ h' tk' Q, Ext None h h' → Q (.ref l) (st s h' tk') → wpAny (model prog w) A (eval eX' env) Q E (st s h' tk'))
    (hW : ∀ h' tk' Q, Ext None h h' → (∀ t, Q (.int (p : Nat) t) (st s h' tk')) → wpAny (model prog w) A (eval eW env) Q E (st s h' tk'))
    (hW' : ∀ h' tk' Q, Ext None h h' → (∀ t, Q (.int (p : Nat) t) (st s h' tk')) → wpAny (model prog w) A (eval eW' env) Q E (st s h' tk'))
    (he : ∀ h' tk' Q, Ext None h h' → (∀ v h'' tk'', Ext None h' h'' → P v h'' → Q v (st s h'' tk'')) → wpAny (model prog w) A (eval e1 env) Q E (st s h' tk'))
    (hP : ∀ v h' h'', P v h' → Ext None h' h'' → P v h'')
    (hq : ∀ h' tk' D v, P v h' → h'.PlainList D (items.setIfInBounds p v) → Ext None h h' → Newer h D → D < h'.objs.size → Q (.ref D) (st s h' tk'))
    (ht : ∀ o r, letTemporaryGo eX o r = pure () := by intro _ _; rfl) (ht' : ∀ o r, letTemporaryGo eX' o r = pure () := by intro _ _; rfl)
    (hst : starEach [e1] env = (false, eval e1 env) :: starEach [] env := by rfl) :
    wpAny (model prog w) A (eval (.BinOp (.BinOp (.Subscript eX (.Slice none (some eW) none q1) q2) .Add (.List [e1] q3) q4) .Add (.Subscript eX' (.Slice (some (.BinOp eW' .Add (.Constant (.int 1) k1 q5) q6)) none none q7) q8) pos) env) Q E (st s h tk) := by
  refine wpAny_BinOp (wpAny_BinOp (sliceL (s := s) (hX h tk _ (Ext.refl _ _) (wpAny_evalPart_none (wpAny_evalPart_some (hW h tk _ (Ext.refl _ _) fun t => ?_)))) ht))
  refine ⟨l, items, none, some (p : Int), h, tk, rfl, rfl, hl, by omega, .none, .int _ _, fun h₁ D₁ hD₁ k₁ _ => ?_⟩
  refine listOne (s := s) (he h₁ tk _ k₁ fun v h₂ tk₂ k₂ hv => ⟨h₂, tk₂, rfl, fun h₃ D₃ hD₃ k₃ _ => ?_⟩) hst
  have hD₁' := PlainList.ext (PlainList.ext hD₁ k₂ id) k₃ id
  rw [slicePick_upto'] at hD₁'
  refine addL hD₁'.isList hD₃.isList (by simp; omega) fun h₄ D₄ hD₄ k₄ _ => ?_
  have k04 : Ext None h h₄ := ((k₁.trans k₂).trans k₃).trans k₄
  refine sliceL (s := s) (hX' h₄ _ _ k04 (wpAny_evalPart_some (wpAny_BinOp (hW' h₄ _ _ k04 fun t' => cI fun _ _ => addI fun _ _ => wpAny_evalPart_none ?_)))) ht'
  refine ⟨l, items, some ((p : Int) + 1), none, h₄, _, rfl, rfl, IsList.ext hl k04 id, by omega, .int _ _, .none, fun h₅ D₅ hD₅ k₅ _ => ?_⟩
  have e1 : (p : Int) + 1 = ((p + 1 : Nat) : Int) := by omega
  rw [e1, slicePick_from'] at hD₅
  refine addL (IsList.ext hD₄.isList k₅ id) hD₅.isList (by simp; omega) fun h₆ D₆ hD₆ k₆ hn₆ => ?_
  rw [cutSet v hp] at hD₆
  have k06 := (k04.trans k₅).trans k₆
  refine hq h₆ _ D₆ v (hP _ _ _ hv (((k₃.trans k₄).trans k₅).trans k₆)) hD₆ k06 (Newer.of (k04.trans k₅) hn₆) ?_
  obtain ⟨_, e⟩ := hD₆
  exact Heap.lt_size e
end
end Mine
end

section
open PySem PySem.W PyProof.Rows
namespace Mine
open PySem.Calls SeqAt

/-! ## the law's own lists -/
abbrev csL (L : Addr) : List (Str × Addr) := cellsOf dLaw.scope L

structure Lw (base : Heap) (L : Addr) (n : Nat) (h : Heap) (Ml Rl Tl H : Addr) (ms : List Int) (ts xs : Array Addr) (key : Addr → Str × Int) : Prop where
  mo : ∃ vs, h.PlainList Ml vs.toArray ∧ IntsAre vs ms
  len : ms.length = n
  ro : RowsAt h Rl (fun k => rowM (ms.getD k 0)) n
  th : h.PlainList Tl (ts.map Value.ref)
  hp : HpAt h H xs key
  pm : xs.Perm ts
  ky : ∀ i, i < n → key (fAt ts i) = (rowM (ms.getD i 0), (i : Int))
  tz : ts.size = n
  hf : HeapFrom (kle key) xs.size 0 (fAt xs)
  oM : base.objs.size ≤ Ml ∧ ¬ Pv L (csL L) Ml
  oR : base.objs.size ≤ Rl ∧ ¬ Pv L (csL L) Rl
  oT : base.objs.size ≤ Tl ∧ ¬ Pv L (csL L) Tl
  oH : base.objs.size ≤ H ∧ ¬ Pv L (csL L) H
  oI : ∀ a, a ∈ xs → base.objs.size ≤ a ∧ ¬ Pv L (csL L) a
  nM : Ml ≠ H
  nR : Rl ≠ H
  nT : Tl ≠ H

theorem Lw.ext {base : Heap} {L : Addr} {n : Nat} {h h' : Heap} {Ml Rl Tl H : Addr} {ms : List Int} {ts xs : Array Addr} {key : Addr → Str × Int} {Y : Addr → Prop}
    (W : Lw base L n h Ml Rl Tl H ms ts xs key) (k : Ext Y h h') (hY : ∀ b, Y b → Pv L (csL L) b ∨ b < base.objs.size) : Lw base L n h' Ml Rl Tl H ms ts xs key := by
  have no : ∀ b, base.objs.size ≤ b ∧ ¬ Pv L (csL L) b → ¬ Y b := fun b hb q => by
    rcases hY b q with q | q
    · exact hb.2 q
    · exact Nat.lt_irrefl _ (Nat.lt_of_lt_of_le q hb.1)
  exact ⟨let ⟨vs, a, b⟩ := W.mo; ⟨vs, PlainList.ext a k (no _ W.oM), b⟩, W.len, W.ro.ext k (no _ W.oR), PlainList.ext W.th k (no _ W.oT), W.hp.ext k (no _ W.oH) fun a ha => no _ (W.oI a ha), W.pm, W.ky, W.tz, W.hf, W.oM, W.oR, W.oT, W.oH, W.oI, W.nM, W.nR, W.nT⟩

theorem IntsAre.at' {vs : List Value} {ns : List Int} (h : IntsAre vs ns) : ∀ i, i < ns.length → ∃ t, vs[i]? = some (.int (ns.getD i 0) t) := by
  induction h with
  | nil => intro i hi; simp at hi
  | cons n t _ ih =>
    intro i hi
    cases i with
    | zero => exact ⟨t, rfl⟩
    | succ i => simpa using ih i (by simpa using hi)
theorem IntsAre.set' {vs : List Value} {ns : List Int} (h : IntsAre vs ns) (a : Int) (t : Tok) : ∀ p, IntsAre (vs.set p (.int a t)) (ns.set p a) := by
  induction h with
  | nil => intro p; simp; exact .nil
  | cons n u _ ih =>
    intro p
    cases p with
    | zero => exact .cons _ _ ‹_›
    | succ p => exact .cons _ _ (ih p)

theorem getD_set {ns : List Int} {p i : Nat} {a : Int} (hp : p < ns.length) : (ns.set p a).getD i 0 = if i = p then a else ns.getD i 0 := by
  rw [List.getD_eq_getElem?_getD, List.getElem?_set]
  by_cases h : p = i
  · subst h; simp [hp]
  · rw [if_neg h, if_neg (Ne.symm h), List.getD_eq_getElem?_getD]

theorem perm_set {xs ts : Array Addr} {p q : Nat} {t : Addr} (hp : p < xs.size) (hq : q < ts.size) (e : fAt xs p = fAt ts q) (h : xs.Perm ts) : (xs.setIfInBounds p t).Perm (ts.setIfInBounds q t) := by
  rw [Array.perm_iff_toList_perm] at h ⊢
  rw [Array.toList_setIfInBounds, Array.toList_setIfInBounds]
  have hp' : p < xs.toList.length := by simpa using hp
  have hq' : q < ts.toList.length := by simpa using hq
  have ep : xs.toList[p] = ts.toList[q] := by
    have e1 := fAt_get hp
    have e2 := fAt_get hq
    rw [Array.getElem?_eq_getElem hp] at e1
    rw [Array.getElem?_eq_getElem hq] at e2
    have : xs[p] = ts[q] := by rw [Option.some.inj e1, Option.some.inj e2, e]
    simpa using this
  have cut : ∀ (l : List Addr) (i : Nat) (hi : i < l.length), l.Perm (l[i] :: (l.take i ++ l.drop (i + 1))) ∧ ∀ x, (l.set i x).Perm (x :: (l.take i ++ l.drop (i + 1))) := fun l i hi => by
    refine ⟨?_, fun x => ?_⟩
    · have : l.take i ++ l[i] :: l.drop (i + 1) = l := by rw [← List.drop_eq_getElem_cons hi, List.take_append_drop]
      exact List.Perm.trans (by rw [this]) (List.perm_middle (a := l[i]) (l₁ := l.take i) (l₂ := l.drop (i + 1)))
    · rw [List.set_eq_take_append_cons_drop, if_pos hi]
      exact List.perm_middle
  obtain ⟨h1, s1⟩ := cut xs.toList p hp'
  obtain ⟨h2, s2⟩ := cut ts.toList q hq'
  have h3 := (h1.symm.trans h).trans h2
  rw [ep] at h3
  exact (s1 t).trans ((h3.cons_inv.cons t).trans (s2 t).symm)

/-- where the thing of a number lies in the heap -/
theorem place_of {xs ts : Array Addr} {key : Addr → Str × Int} {n q : Nat} {R : Nat → Str} (h : xs.Perm ts) (tz : ts.size = n) (ky : ∀ i, i < n → key (fAt ts i) = (R i, (i : Int))) (hq : q < n) :
    ∃ p, p < xs.size ∧ fAt xs p = fAt ts q ∧ ∀ i, i < xs.size → ((key (fAt xs i)).2 = (q : Int) ↔ i = p) := by
  have hm : fAt ts q ∈ xs := h.mem_iff.mpr (fAt_mem (by omega))
  obtain ⟨p, hp, ep⟩ := Array.getElem_of_mem hm
  have ep' : fAt xs p = fAt ts q := by
    have := fAt_get hp
    rw [Array.getElem?_eq_getElem hp] at this
    rw [← Option.some.inj this, ep]
  have inj : ∀ i j, i < n → j < n → fAt ts i = fAt ts j → i = j := fun i j hi hj e => by
    have h1 := ky i hi
    have h2 := ky j hj
    rw [e, h2] at h1
    have := congrArg Prod.snd h1
    simp at this
    omega
  have ndt : ts.toList.Nodup := by
    rw [List.nodup_iff_pairwise_ne, List.pairwise_iff_getElem]
    intro i j hi hj hij e
    have hi' : i < ts.size := by simpa using hi
    have hj' : j < ts.size := by simpa using hj
    have e1 := fAt_get hi'
    have e2 := fAt_get hj'
    rw [Array.getElem?_eq_getElem hi'] at e1
    rw [Array.getElem?_eq_getElem hj'] at e2
    have : i = j := inj i j (by omega) (by omega) (by rw [← Option.some.inj e1, ← Option.some.inj e2]; simpa using e)
    omega
  have ndx : xs.toList.Nodup := (Array.perm_iff_toList_perm.mp h).nodup_iff.mpr ndt
  rw [List.nodup_iff_pairwise_ne, List.pairwise_iff_getElem] at ndx
  have injx : ∀ i j, i < xs.size → j < xs.size → fAt xs i = fAt xs j → i = j := fun i j hi hj e => by
    have e1 := fAt_get hi
    have e2 := fAt_get hj
    rw [Array.getElem?_eq_getElem hi] at e1
    rw [Array.getElem?_eq_getElem hj] at e2
    have e3 : xs.toList[i]'(by simpa using hi) = xs.toList[j]'(by simpa using hj) := by
      have : xs[i] = xs[j] := by rw [Option.some.inj e1, Option.some.inj e2, e]
      simpa using this
    rcases Nat.lt_trichotomy i j with hl | hl | hl
    · exact absurd e3 (ndx i j _ _ hl)
    · exact hl
    · exact absurd e3.symm (ndx j i _ _ hl)
  refine ⟨p, hp, ep', fun i hi => ⟨fun e => injx i p hi hp ?_, fun e => ?_⟩⟩
  · have hmi : fAt xs i ∈ ts := h.mem_iff.mp (fAt_mem hi)
    obtain ⟨j, hj, ej⟩ := Array.getElem_of_mem hmi
    have ej' : fAt xs i = fAt ts j := by
      have := fAt_get hj
      rw [Array.getElem?_eq_getElem hj] at this
      rw [← Option.some.inj this, ej]
    rw [ej', ky j (by omega)] at e
    have : j = q := by simp at e; omega
    rw [ej', ep', this]
  · rw [e, ep', ky q hq]
end Mine
end

section
open PySem PySem.W PyProof.Rows
namespace Mine
open PySem.Calls SeqAt

theorem HeapFrom.congr' {le le' : Addr → Addr → Prop} {n : Nat} {f : Nat → Addr} (h : HeapFrom le n 0 f) (e : ∀ i j, i < n → j < n → le (f i) (f j) → le' (f i) (f j)) : HeapFrom le' n 0 f :=
  fun i h0 hn hb => e _ _ (by unfold par; omega) hn (h i h0 hn hb)
theorem none_of {base : Heap} {H : Addr} (h : base.objs.size ≤ H) : base.get? H = none := by
  cases e : base.get? H with
  | none => rfl
  | some o => exact absurd (Heap.lt_size e) (Nat.not_lt.mpr h)

/-- the key with the new thing's -/
def key2 (key : Addr → Str × Int) (a : Addr) (x : Str × Int) : Addr → Str × Int := fun b => if b = a then x else key b
theorem key2_self {key : Addr → Str × Int} {a : Addr} {x : Str × Int} : key2 key a x a = x := if_pos rfl
theorem key2_ne {key : Addr → Str × Int} {a b : Addr} {x : Str × Int} (h : b ≠ a) : key2 key a x b = key b := if_neg h

section
variable {prog : Program} {w : World} {A : Around} {E : Value → Shared → Prop} {s : Shared} {h : Heap} {tk : Nat} {base : Heap} {mg mb : Str → Option Value} {L f : Addr} {cd : Value}

abbrev lawEnv (L f : Addr) (cd : Value) : Env := envOfC dLaw.name dLaw.scope L f cd
abbrev lv (scr : Value) (Tl : Addr) : List (Str × Value) := [(Str.ofString "script", scr), (Str.ofString "things", .ref Tl)]
abbrev lc (Ml Rl H : Addr) : List (Str × Value) := [(Str.ofString "modes", .ref Ml), (Str.ofString "rows", .ref Rl), (Str.ofString "heap", .ref H)]

set_option maxHeartbeats 8000000 in
theorem law_turn {n : Nat} {Ml Rl Tl H : Addr} {ms : List Int} {ts xs : Array Addr} {key : Addr → Str × Int} {xv : Int} {xt : Tok} {scr : Value} (G : Gl mg mb base) (GT : TabG mg base) (hn6 : 6 ≤ n) (hn : n ≤ 20)
    (F : FmC base None base L (csL L) h ((Str.ofString "x", .int xv xt) :: lv scr Tl) (lc Ml Rl H)) (W : Lw base L n h Ml Rl Tl H ms ts xs key)
    (hroom : A.depth + 5 < recursionLimit) (hu : A.units + 100 < cLine) (hh : A.handled = none) {Q : Flow → Shared → Prop}
    (hq : ∀ h' tk' Ml' Rl' Tl' ms' ts' xs' key', FmC base None base L (csL L) h' (lv scr Tl') (lc Ml' Rl' H) → Lw base L n h' Ml' Rl' Tl' H ms' ts' xs' key' → Ext (fun b => Pv L (csL L) b ∨ b = H) h h' → Q .next (st s h' tk')) :
    wpAny (model prog w) A (execs (bodyOf (nthS dLaw.body 4)) (lawEnv L f cd)) Q E (st s h tk) := by
  have no : ∀ b, None b → Pv L (csL L) b ∨ b < base.objs.size := fun _ q => q.elim
  have pv : ∀ b, Pv L (csL L) b → Pv L (csL L) b ∨ b < base.objs.size := fun _ q => .inl q
  have xz : xs.size = n := W.pm.size_eq.trans W.tz
  obtain ⟨vs, hvs, hint⟩ := id W.mo
  have hvz : vs.toArray.size = n := by rw [List.size_toArray, hint.length, W.len]
  obtain ⟨q, eq, hqn⟩ : ∃ q : Nat, xv.fmod (n : Int) = q ∧ q < n := by
    refine ⟨(xv % (n : Int)).toNat, ?_, ?_⟩
    · rw [Int.fmod_eq_emod_of_nonneg _ (by omega)]
      have := Int.emod_nonneg xv (show (n : Int) ≠ 0 by omega); omega
    · have := Int.emod_nonneg xv (show (n : Int) ≠ 0 by omega)
      have := Int.emod_lt_of_pos xv (show (0 : Int) < n by omega); omega
  obtain ⟨p, ep, hp⟩ : ∃ p : Nat, (xv.fdiv (n : Int)).fmod 12 = p ∧ p < 12 := by
    refine ⟨(xv.fdiv (n : Int) % 12).toNat, ?_, ?_⟩
    · rw [Int.fmod_eq_emod_of_nonneg _ (by decide)]; omega
    · omega
  -- which, spot
  refine wpAny_execs_cons (Assign_Tuple_swapped (names := [Str.ofString "which", Str.ofString "spot"]) ?_)
  refine tupleI (s := s) (args_cons (wpAny_BinOp (ldFC F rfl (Call_ (blG F.based G (by decide) boot_len (callWith_builtin1 (args_cons (ldCC' F rfl (args_nil (lenI hvs.isList (by rw [hvz]; omega) fun _ _ => ?_))))))))))
  rw [hvz]
  refine modI (by omega) fun t1 _ => ?_
  rw [eq]
  refine args_cons (wpAny_BinOp (wpAny_BinOp (ldFC F rfl (Call_ (blG F.based G (by decide) boot_len (callWith_builtin1 (args_cons (ldCC' F rfl (args_nil (lenI hvs.isList (by rw [hvz]; omega) fun _ _ => ?_))))))))))
  rw [hvz]
  refine fdivI (by omega) (by omega) fun _ _ => cI fun _ _ => modI (by decide) fun t2 _ => ?_
  rw [ep]
  refine args_nil ⟨_, _, rfl, by simp, fun h₁ T hT k₁ _ => unpack2 hh hT fun h₂ k₂ => ?_⟩
  refine assignInOrder_cons (wpAny_bindName (stFC ((F.kept k₁).kept k₂) fun h₃ _ F₃ k₃ => ?_))
  refine assignInOrder_cons (wpAny_bindName (stFC F₃ fun h₄ _ F₄ k₄ => assignInOrder_nil ?_))
  have W₄ := (((W.ext k₁ no).ext k₂ no).ext k₃ pv).ext k₄ pv
  have kk₄ : Ext (Pv L (csL L)) h h₄ := (((k₁.mono fun _ q => q.elim).trans (k₂.mono fun _ q => q.elim)).trans k₃).trans k₄
  obtain ⟨vs₄, hvs₄, hint₄⟩ := id W₄.mo
  have hvz₄ : vs₄.toArray.size = n := by rw [List.size_toArray, hint₄.length, W.len]
  obtain ⟨tm, hmq⟩ := IntsAre.at' hint₄ q (by rw [W.len]; exact hqn)
  have hmq' : vs₄.toArray[((q : Nat) : Int).toNat]? = some (.int (ms.getD q 0) tm) := by rw [Int.toNat_natCast, List.getElem?_toArray]; exact hmq
  generalize hm : ms.getD q 0 = m at hmq'
  obtain ⟨w1, w2, w3, w4⟩ := pow_ok p (by omega)
  obtain ⟨_, _, _, v4⟩ := pow_ok (p + 1) (by omega)
  -- turned
  refine wpAny_execs_cons (wpAny_Assign_Name (wpAny_BinOp (wpAny_BinOp (sub_list (ldCC' F₄ rfl (ldFC F₄ rfl ⟨Ml, _, q, _, _, rfl, rfl, hvs₄.isList, by omega, by omega, hmq', ?_⟩))))))
  refine wpAny_BinOp (cI fun _ _ => ldFC F₄ rfl (powI (by omega) fun _ _ => addI fun _ _ => ?_))
  refine wpAny_BinOp (wpAny_BinOp (wpAny_BinOp (sub_list (ldCC' F₄ rfl (ldFC F₄ rfl ⟨Ml, _, q, _, _, rfl, rfl, hvs₄.isList, by omega, by omega, hmq', ?_⟩)))))
  refine wpAny_BinOp (cI fun _ _ => ldFC F₄ rfl (powI (by omega) fun _ _ => fdivI w1 w2 fun _ _ => cI fun _ _ => modI (by decide) fun _ _ => ?_))
  refine wpAny_BinOp (cI fun _ _ => wpAny_BinOp (ldFC F₄ rfl (cI fun _ _ => addI fun _ _ => ?_)))
  rw [show ((p : Nat) : Int) + 1 = ((p + 1 : Nat) : Int) by omega]
  refine powI (by omega) fun _ _ => mulI (.of_right v4) fun _ _ => subI fun tt _ => ?_
  have et : m + 2 ^ p - (m.fdiv (2 ^ p)).fmod 2 * 2 ^ (p + 1) = turnM m p := by
    unfold turnM; rw [Int.fdiv_eq_ediv_of_nonneg _ w3, Int.fmod_eq_emod_of_nonneg _ (by decide)]
  rw [et]
  refine stFC F₄ fun h₅ _ F₅ k₅ => ?_
  have W₅ := W₄.ext k₅ pv
  have kk₅ := kk₄.trans k₅
  obtain ⟨vs₅, hvs₅, hint₅⟩ := id W₅.mo
  have hvz₅ : vs₅.toArray.size = n := by rw [List.size_toArray, hint₅.length, W.len]
  -- modes, fresh
  refine wpAny_execs_cons (Assign_Tuple (tupleI (s := s) (args_cons ?_)))
  refine splice (s := s) (p := q) (P := fun v _ => v = .int (turnM m p) tt) hvs₅.isList (by omega) (by omega)
    (fun h' tk' Q k hQ => ldCC' (F₅.kept k) rfl hQ) (fun h' tk' Q k hQ => ldCC' (F₅.kept k) rfl hQ)
    (fun h' tk' Q k hQ => ldFC (F₅.kept k) rfl (hQ _)) (fun h' tk' Q k hQ => ldFC (F₅.kept k) rfl (hQ _))
    (fun h' tk' Q k hQ => ldFC (F₅.kept k) rfl (hQ _ h' tk' (Ext.refl _ _) rfl)) (fun _ _ _ e _ => e) ?_
  rintro h₆ _ D₆ _ rfl hD₆ k₆ nD₆ _
  have F₆ := F₅.kept k₆
  refine args_cons (wpAny_List (wpAny_items_cons (Call_ (glG (d := dFilemode) F₆.based G (by simp [defs]) fun a o' pm' code' doc' g1 g2 g3 g4 => ?_))))
  refine callWith_def g3 (args_cons (ldFC F₆ rfl (args_nil ⟨F₆.based _ _ g2, wpAny_call ?_⟩)))
  refine filemode_call G GT F₆.based g2 g3 g4 (by omega) hh fun h₇ tk₇ t₇ k₇ => ?_
  have F₇ := F₆.kept k₇
  refine wpAny_items_cons (ldFC F₇ rfl (wpAny_items_nil ⟨by simp [sizeLine_eq], args_nil ⟨_, _, rfl, by simp, fun h₉ T₉ hT₉ k₉ _ => ?_⟩⟩))
  generalize hfr : h₇.objs.size = fr at hT₉
  have k₈ : Ext None h₇ _ := Ext.push (h := h₇) (o := { cls := .type "list", dict := none, data := .seq [Value.str (rowM (turnM m p)) t₇, .int (q : Nat) t1].toArray })
  have F₉ := (F₇.kept k₈).kept k₉
  have nfr : Newer h₅ fr := Newer.of (k₆.trans k₇) (hfr ▸ Nat.le_refl _)
  have it₉ : ItemAt h₉ fr (rowM (turnM m p), (q : Int)) := by
    have hg := Heap.get?_push_size h₇ (o := { cls := .type "list", dict := none, data := .seq [Value.str (rowM (turnM m p)) t₇, .int (q : Nat) t1].toArray }) rfl
    rw [hfr] at hg
    exact ItemAt.ext (X := None) ⟨t₇, t1, _, hg, rfl, 0, rfl⟩ k₉ id
  have k59 : Ext None h₅ h₉ := ((k₆.trans k₇).trans k₈).trans k₉
  have hD₉ := PlainList.ext (PlainList.ext (PlainList.ext hD₆ k₇ id) k₈ id) k₉ id
  refine asgPair (s := s) hh hT₉ fun h₁₀ k₁₀ => wpAny_assign_Name (stCC' (F₉.kept k₁₀) fun h₁₁ _ F₁₁ k₁₁ => wpAny_assign_Name (stFC F₁₁ fun h₁₂ _ F₁₂ k₁₂ => ?_))
  rw [show (st s h₇ tk₇).heap.objs.size = fr from hfr] at F₁₂
  have own₆ := F₅.newer nD₆
  have ownf := F₅.newer nfr
  have W₁₂ := (((W₅.ext k59 no).ext k₁₀ no).ext k₁₁ pv).ext k₁₂ pv
  have it₁₂ := ((it₉.ext k₁₀ id).ext k₁₁ ownf.2).ext k₁₂ ownf.2
  have hD₁₂ := PlainList.ext (PlainList.ext (PlainList.ext hD₉ k₁₀ id) k₁₁ own₆.2) k₁₂ own₆.2
  have kk₁₂ : Ext (Pv L (csL L)) h h₁₂ := (((kk₅.trans (k59.mono fun _ q => q.elim)).trans (k₁₀.mono fun _ q => q.elim)).trans k₁₁).trans k₁₂
  have hHfr : H < fr := by obtain ⟨_, e⟩ := W₅.hp.list; exact nfr _ _ e
  have hHD : H < D₆ := by obtain ⟨_, e⟩ := W₅.hp.list; exact nD₆ _ _ e
  have frx : ∀ a, a ∈ xs → a ≠ fr := fun a ha => by
    obtain ⟨_, _, o, e, _⟩ := W₅.hp.items a ha
    exact Nat.ne_of_lt (nfr _ _ e)
  -- the rows as they were
  obtain ⟨ri, hri, hrz, hrs⟩ := id W₁₂.ro
  obtain ⟨tr, hrq⟩ := hrs q hqn
  replace hrq : ri[q]? = some (.str (rowM (ms.getD q 0)) tr) := hrq
  rw [hm] at hrq
  have hrq' : ri[((q : Nat) : Int).toNat]? = some (.str (rowS (tch (m / 4096 % 16)) (bt m)) tr) := hrq
  -- things, down
  refine wpAny_execs_cons (Assign_Tuple_swapped (names := [Str.ofString "things", Str.ofString "down"]) (tupleI (s := s) (args_cons ?_)))
  refine splice (s := s) (p := q) (P := fun v _ => v = .ref fr) W₁₂.th.isList (by rw [Array.size_map, W.tz]; exact hqn) (by rw [Array.size_map, W.tz]; omega)
    (fun h' tk' Q k hQ => ldFC (F₁₂.kept k) rfl hQ) (fun h' tk' Q k hQ => ldFC (F₁₂.kept k) rfl hQ)
    (fun h' tk' Q k hQ => ldFC (F₁₂.kept k) rfl (hQ _)) (fun h' tk' Q k hQ => ldFC (F₁₂.kept k) rfl (hQ _))
    (fun h' tk' Q k hQ => ldFC (F₁₂.kept k) rfl (hQ _ h' tk' (Ext.refl _ _) rfl)) (fun _ _ _ e _ => e) ?_
  rintro h₁₃ _ D₁₃ _ rfl hD₁₃ k₁₃ nD₁₃ _
  have F₁₃ := F₁₂.kept k₁₃
  refine args_cons (Call_ (glG (d := dDown) F₁₃.based G (by simp [defs]) fun a o' pm' code' doc' g1 g2 g3 g4 => ?_))
  refine callWith_def g3 (args_cons (sub_list (ldCC' F₁₃ rfl (ldFC F₁₃ rfl ⟨Rl, _, q, _, _, rfl, rfl, IsList.ext hri k₁₃ id, by omega, by omega, hrq', args_cons (ldFC F₁₃ rfl (args_nil ⟨F₁₃.based _ _ g2, wpAny_call ?_⟩))⟩))))
  refine down_call G F₁₃.based hp g2 g3 g4 (by omega) hh fun h₁₄ tk₁₄ k₁₄ => ?_
  refine args_nil ⟨_, _, rfl, by simp, fun h₁₅ T₁₅ hT₁₅ k₁₅ _ => unpack2 hh hT₁₅ fun h₁₆ k₁₆ => ?_⟩
  have F₁₆ := ((F₁₃.kept k₁₄).kept k₁₅).kept k₁₆
  refine assignInOrder_cons (wpAny_bindName (stFC F₁₆ fun h₁₇ _ F₁₇ k₁₇ => ?_))
  refine assignInOrder_cons (wpAny_bindName (stFC F₁₇ fun h₁₈ _ F₁₈ k₁₈ => assignInOrder_nil ?_))
  have own₁₃ := F₁₂.newer nD₁₃
  have kd : Ext None h₁₂ h₁₆ := ((k₁₃.trans k₁₄).trans k₁₅).trans k₁₆
  have W₁₈ := ((W₁₂.ext kd no).ext k₁₇ pv).ext k₁₈ pv
  have it₁₈ := ((it₁₂.ext kd id).ext k₁₇ ownf.2).ext k₁₈ ownf.2
  have hD₁₈ := PlainList.ext (PlainList.ext (PlainList.ext hD₁₂ kd id) k₁₇ own₆.2) k₁₈ own₆.2
  have hT₁₈ := PlainList.ext (PlainList.ext (PlainList.ext hD₁₃ ((k₁₄.trans k₁₅).trans k₁₆) id) k₁₇ own₁₃.2) k₁₈ own₁₃.2
  have kk₁₈ : Ext (Pv L (csL L)) h h₁₈ := ((kk₁₂.trans (kd.mono fun _ q => q.elim)).trans k₁₇).trans k₁₈
  have hHT : H < D₁₃ := by obtain ⟨_, e⟩ := W₁₂.hp.list; exact nD₁₃ _ _ e
  rw [map_set] at hT₁₈
  have hri₁₈ := IsList.ext (IsList.ext (IsList.ext hri kd id) k₁₇ W.oR.2) k₁₈ W.oR.2
  -- rows
  refine wpAny_execs_cons (wpAny_Assign_Name ?_)
  refine splice (s := s) (p := q) (P := fun v _ => ∃ t, v = .str (rowM (turnM m p)) t) hri₁₈ (by omega) (by omega)
    (fun h' tk' Q k hQ => ldCC' (F₁₈.kept k) rfl hQ) (fun h' tk' Q k hQ => ldCC' (F₁₈.kept k) rfl hQ)
    (fun h' tk' Q k hQ => ldFC (F₁₈.kept k) rfl (hQ _)) (fun h' tk' Q k hQ => ldFC (F₁₈.kept k) rfl (hQ _))
    (fun h' tk' Q k hQ => ?_) (fun _ _ _ e _ => e) ?_
  · have F' := F₁₈.kept k
    refine Call_ (glG (d := dTurned) F'.based G (by simp [defs]) fun a o' pm' code' doc' g1 g2 g3 g4 => ?_)
    refine callWith_def g3 (args_cons (sub_list (ldCC' F' rfl (ldFC F' rfl ⟨Rl, _, q, _, _, rfl, rfl, IsList.ext hri₁₈ k id, by omega, by omega, hrq', args_cons (ldFC F' rfl (args_nil ⟨F'.based _ _ g2, wpAny_call ?_⟩))⟩))))
    refine turned_call G F'.based hp g2 g3 g4 (by omega) hh fun h₁₉ tk₁₉ t₁₉ k₁₉ => ?_
    rw [row_turn hp m]
    exact hQ _ _ _ k₁₉ ⟨_, rfl⟩
  rintro h₁₉ _ D₁₉ _ ⟨t₁₉, rfl⟩ hD₁₉ k₁₉ nD₁₉ _
  refine stCC' (F₁₈.kept k₁₉) fun h₂₀ _ F₂₀ k₂₀ => ?_
  have own₁₉ := F₁₈.newer nD₁₉
  have W₂₀ := (W₁₈.ext k₁₉ no).ext k₂₀ pv
  have it₂₀ := (it₁₈.ext k₁₉ id).ext k₂₀ ownf.2
  have hM₂₀ := PlainList.ext (PlainList.ext hD₁₈ k₁₉ id) k₂₀ own₆.2
  have hT₂₀ := PlainList.ext (PlainList.ext hT₁₈ k₁₉ id) k₂₀ own₁₃.2
  have hR₂₀ := PlainList.ext hD₁₉ k₂₀ own₁₉.2
  have kk₂₀ : Ext (Pv L (csL L)) h h₂₀ := (kk₁₈.trans (k₁₉.mono fun _ q => q.elim)).trans k₂₀
  have hHR : H < D₁₉ := by obtain ⟨_, e⟩ := W₁₈.hp.list; exact nD₁₉ _ _ e
  -- the new state, in plain words
  have hky := W.ky q hqn
  rw [hm] at hky
  obtain ⟨pp, hpp, epp, hnum⟩ := place_of W.pm W.tz W.ky hqn
  have kx : ∀ a, a ∈ xs → key2 key fr (rowM (turnM m p), (q : Int)) a = key a := fun a ha => key2_ne (frx a ha)
  have hp₂₀ : HpAt h₂₀ H xs (key2 key fr (rowM (turnM m p), (q : Int))) := ⟨W₂₀.hp.list, fun a ha => by rw [kx a ha]; exact W₂₀.hp.items a ha, W₂₀.hp.ne⟩
  obtain ⟨tk1, tk2⟩ := turn_key hp m q
  refine wpAny_execs_cons (wpAny_If (wpAny_isTrue_BoolOp (wpAny_allTrue_Or_cons (wpAny_isTrue_Compare1 (Call_ (glG (d := dMended) F₂₀.based G (by simp [defs]) fun a o' pm' code' doc' g1 g2 g3 g4 => ?_))))))
  refine callWith_def g3 (args_cons (ldCC' F₂₀ rfl (args_cons (ldFC F₂₀ rfl (args_cons (ldFC F₂₀ rfl (args_nil ⟨F₂₀.based _ _ g2, wpAny_call ?_⟩)))))))
  refine mended_call (xs := xs) (p := pp) (key := key2 key fr (rowM (turnM m p), (q : Int))) G F₂₀.based (none_of W.oH.1) hp₂₀ (by omega) hpp (by rw [key2_self]; exact it₂₀) (Nat.ne_of_gt hHfr)
    (fun i hi => by rw [kx _ (fAt_mem hi), key2_self]; exact hnum i hi)
    (W.hf.congr' fun i j hi hj hle => by show itLt _ _ = false; rw [kx _ (fAt_mem hi), kx _ (fAt_mem hj)]; exact hle)
    (fun hd => by show itLt _ _ = false; rw [key2_self, kx _ (fAt_mem hpp), epp, hky]; exact tk1 hd)
    (fun hd => by show itLt _ _ = false; rw [key2_self, kx _ (fAt_mem hpp), epp, hky]; exact tk2 hd)
    g2 g3 g4 (by omega) (by omega) hh fun h₂₁ tk₂₁ ys hy1 hy2 hy3 hy4 => ?_
  have hY : ∀ b, One H b → None b ∨ (base.objs.size ≤ b ∧ ¬ Pv L (csL L) b) := by rintro b rfl; exact .inr W.oH
  have F₂₁ := F₂₀.chg hy4 hY
  have zz : (ts.setIfInBounds q fr).size = n := by rw [Array.size_setIfInBounds, W.tz]
  have hys : ys.Perm (ts.setIfInBounds q fr) := hy2.trans (perm_set hpp (by rw [W.tz]; exact hqn) epp W.pm)
  have nfrt : ∀ i, i < n → fAt ts i ≠ fr := fun i hi => frx _ (W.pm.mem_iff.mpr (fAt_mem (by rw [W.tz]; exact hi)))
  have W₂₁ : Lw base L n h₂₁ D₆ D₁₉ D₁₃ H (ms.set q (turnM m p)) (ts.setIfInBounds q fr) ys (key2 key fr (rowM (turnM m p), (q : Int))) := by
    refine ⟨⟨vs₅.set q (.int (turnM m p) tt), ?_, IntsAre.set' hint₅ _ _ q⟩, by rw [List.length_set, W.len], ⟨_, (PlainList.ext hR₂₀ hy4 (Nat.ne_of_gt hHR)).isList, by rw [Array.size_setIfInBounds, hrz], fun i hi => ?_⟩,
      PlainList.ext hT₂₀ hy4 (Nat.ne_of_gt hHT), hy1, hys, fun i hi => ?_, zz, hy3, own₆, own₁₉, own₁₃, W.oH, fun a ha => ?_, Nat.ne_of_gt hHD, Nat.ne_of_gt hHR, Nat.ne_of_gt hHT⟩
    · have := PlainList.ext hM₂₀ hy4 (Nat.ne_of_gt hHD)
      rw [List.setIfInBounds_toArray] at this
      exact this
    · obtain ⟨ti, hri'⟩ := hrs i hi
      show ∃ t, _ = some (Value.str (rowM ((ms.set q (turnM m p)).getD i 0)) t)
      rw [Array.getElem?_setIfInBounds, getD_set (by rw [W.len]; exact hqn)]
      by_cases hqi : q = i
      · rw [if_pos hqi, if_pos (by omega), if_pos hqi.symm]; exact ⟨_, rfl⟩
      · rw [if_neg hqi, if_neg (Ne.symm hqi)]; exact ⟨ti, hri'⟩
    · rw [fAt_set (by rw [W.tz]; exact hqn), getD_set (by rw [W.len]; exact hqn)]
      by_cases hqi : i = q
      · rw [if_pos hqi, hqi, upd_self, key2_self]
      · rw [if_neg hqi, upd_ne _ _ hqi, key2_ne (nfrt i hi)]; exact W.ky i hi
    · rcases mem_set (hy2.mem_iff.mp ha) with rfl | ha
      · exact ownf
      · exact W.oI a ha
  refine wpAny_Constant_none (wpAny_isNot_self rfl (wpAny_truthy_bool ?_))
  refine wpAny_allTrue_Or_cons (wpAny_isTrue_Not (wpAny_isTrue_value (Call_ (glG (d := dStands) F₂₁.based G (by simp [defs]) fun a o' pm' code' doc' g1 g2 g3 g4 => ?_))))
  refine callWith_def g3 (args_cons (ldCC' F₂₁ rfl (args_cons (ldFC F₂₁ rfl (args_cons (ldCC' F₂₁ rfl (args_nil ⟨F₂₁.based _ _ g2, wpAny_call ?_⟩)))))))
  refine stands_call (n := n) G F₂₁.based W₂₁.hp (by omega) (by omega) (W₂₁.pm.size_eq.trans zz) W₂₁.hf W₂₁.th.isList W₂₁.ro W₂₁.pm W₂₁.ky g2 g3 g4 (by omega) (by omega) hh fun h₂₂ tk₂₂ k₂₂ => ?_
  refine wpAny_truthy_bool (wpAny_allTrue_Or_nil (wpAny_execs_nil (wpAny_execs_nil ?_)))
  refine hq h₂₂ _ D₆ D₁₉ D₁₃ _ _ _ _ ((F₂₁.kept k₂₂).sub ⟨rfl, rfl, trivial⟩ ⟨rfl, rfl, rfl, trivial⟩) (W₂₁.ext k₂₂ no) ?_
  exact ((kk₂₀.mono fun _ q => .inl q).trans (hy4.mono fun _ q => .inr q)).trans (k₂₂.mono fun _ q => q.elim)
end
end Mine
end

section
open PySem PySem.W PyProof.Rows
namespace Mine
open PySem.Calls SeqAt

theorem LiIter.ext {X : Addr → Prop} {h h' : Heap} {a t : Addr} {i : Nat} (x : h.IsListIter a t i) (k : Ext X h h') (hx : ¬ X a) : h'.IsListIter a t i :=
  let ⟨o, ho, r⟩ := x; ⟨o, k _ _ hx ho, r⟩
theorem IntsAre.some' {vs : List Value} {ns : List Int} (h : IntsAre vs ns) : ∀ i, i < vs.length → ∃ a t, vs[i]? = some (.int a t) := fun i hi => by
  obtain ⟨t, e⟩ := IntsAre.at' h i (by rw [← h.length]; exact hi)
  exact ⟨_, t, e⟩

theorem Lw.extN {base : Heap} {L : Addr} {n : Nat} {h h' : Heap} {Ml Rl Tl H : Addr} {ms : List Int} {ts xs : Array Addr} {key : Addr → Str × Int} {Y : Addr → Prop}
    (W : Lw base L n h Ml Rl Tl H ms ts xs key) (k : Ext Y h h') (hY : ∀ b, Y b → ∀ its, ¬ h.IsList b its) : Lw base L n h' Ml Rl Tl H ms ts xs key := by
  have hro : ¬ Y Rl := fun q => by obtain ⟨_, z, _⟩ := W.ro; exact hY _ q _ z
  exact ⟨let ⟨vs, a, b⟩ := W.mo; ⟨vs, PlainList.ext a k fun q => hY _ q _ a.isList, b⟩, W.len, W.ro.ext k hro, PlainList.ext W.th k fun q => hY _ q _ W.th.isList,
    W.hp.ext k (fun q => hY _ q _ W.hp.list.isList) fun a ha q => by obtain ⟨_, _, z⟩ := W.hp.items a ha; exact hY _ q _ z, W.pm, W.ky, W.tz, W.hf, W.oM, W.oR, W.oT, W.oH, W.oI, W.nM, W.nR, W.nT⟩
theorem iter_ne {h : Heap} {I l : Addr} {i : Nat} (hI : h.IsListIter I l i) : ∀ b, One I b → ∀ its, ¬ h.IsList b its := by
  rintro b rfl its ⟨o, ho, hc, _⟩
  obtain ⟨o', ho', hc', _⟩ := hI
  rw [ho] at ho'
  cases ho'
  rw [hc] at hc'
  exact absurd hc' (by decide)

theorem slice_form (sv : List Value) (lo hi : Option Int) : ∃ a b, slicePick sv.toArray lo hi none = ((sv.drop a).take b).toArray := ⟨_, _, slicePick_plain _ _ _⟩

section
variable {prog : Program} {w : World} {A : Around} {E : Value → Shared → Prop} {s : Shared} {h : Heap} {tk : Nat} {base : Heap} {mg mb : Str → Option Value} {L f : Addr} {cd : Value}

theorem nextL {it l : Addr} {i : Nat} {items : Array Value} {x : Value} {Q : Option Value → Shared → Prop} (hit : h.IsListIter it l i) (ht : h.IsList l items) (hx : items[i]? = some x)
    (hq : ∀ h', h'.IsListIter it l (i + 1) → Ext (One it) h h' → Q (some x) (st s h' tk)) : wpAny (model prog w) A (pyNext (.ref it)) Q E (st s h tk) :=
  wpAny_pyNext_list_item (s := st s h tk) hit ht hx fun h' a b => hq h' a (sbExt b)
theorem endL {it l : Addr} {i : Nat} {items : Array Value} {Q : Option Value → Shared → Prop} (hh : A.handled = none) (hit : h.IsListIter it l i) (ht : h.IsList l items) (hx : items[i]? = none)
    (hq : ∀ h', Ext (One it) h h' → Q none (st s h' tk)) : wpAny (model prog w) A (pyNext (.ref it)) Q E (st s h tk) :=
  wpAny_pyNext_list_end (s := st s h tk) hh hit ht hx fun h' e => hq h' (Ext.of_extBut e)

set_option maxHeartbeats 8000000 in
theorem law_loop {n : Nat} {Ml Rl Tl H S : Addr} {ms : List Int} {ts xs : Array Addr} {key : Addr → Str × Int} {sv : List Value} {sn : List Int} (G : Gl mg mb base) (GT : TabG mg base) (hn6 : 6 ≤ n) (hn : n ≤ 20)
    (hS : base.IsList S sv.toArray) (hSi : IntsAre sv sn) (hSl : sv.length ≤ 70)
    (F : FmC base None base L (csL L) h (lv (.ref S) Tl) (lc Ml Rl H)) (W : Lw base L n h Ml Rl Tl H ms ts xs key)
    (hroom : A.depth + 5 < recursionLimit) (hu : A.units + 100 < cLine) (hh : A.handled = none) {Q : Flow → Shared → Prop}
    (hq : ∀ h' tk' Ml' Rl' Tl' ms' ts' xs' key', FmC base None base L (csL L) h' (lv (.ref S) Tl') (lc Ml' Rl' H) → Lw base L n h' Ml' Rl' Tl' H ms' ts' xs' key' → Q .next (st s h' tk')) :
    wpAny (model prog w) A (exec (nthS dLaw.body 4) (lawEnv L f cd)) Q E (st s h tk) := by
  have no : ∀ b, None b → Pv L (csL L) b ∨ b < base.objs.size := fun _ q => q.elim
  have pv : ∀ b, Pv L (csL L) b → Pv L (csL L) b ∨ b < base.objs.size := fun _ q => .inl q
  refine wpAny_For (wpAny_BinOp (wpAny_List (wpAny_items_cons (cI fun t1 _ => wpAny_items_cons (cI fun t2 _ => wpAny_items_nil ⟨by simp [sizeLine_eq], ?_⟩)))))
  have k₁ : Ext None h _ := Ext.push (h := h) (o := { cls := .type "list", dict := none, data := .seq [Value.int 68 t1, .int 37 t2].toArray })
  have hl₁ := Heap.get?_push_size h (o := { cls := .type "list", dict := none, data := .seq [Value.int 68 t1, .int 37 t2].toArray }) rfl
  generalize hh₁ : h.push { cls := .type "list", dict := none, data := .seq [Value.int 68 t1, .int 37 t2].toArray } = h₁ at k₁ hl₁
  have F₁ := F.kept k₁
  show wpAny _ _ _ _ _ (st s (h.push { cls := .type "list", dict := none, data := .seq [Value.int 68 t1, .int 37 t2].toArray }) _)
  rw [hh₁]
  refine sliceL (s := s) (ldFC F₁ rfl (wpAny_evalPart_some (cI fun _ _ => wpAny_evalPart_some (cI fun _ _ => ?_))))
  refine ⟨S, _, some ((1 : Nat) : Int), some ((7 : Nat) : Int), h₁, _, rfl, rfl, let ⟨o, ho, r⟩ := hS; ⟨o, F₁.based _ _ ho, r⟩, by rw [List.size_toArray]; omega, .int _ _, .int _ _, fun h₂ D₂ hD₂ k₂ _ => ?_⟩
  have hl₂ : h₂.IsList h.objs.size [Value.int 68 t1, .int 37 t2].toArray := ⟨_, k₂ _ _ id hl₁, rfl, 0, rfl⟩
  have hsz : (slicePick sv.toArray (some ((1 : Nat) : Int)) (some ((7 : Nat) : Int)) none).size ≤ 70 := Nat.le_trans (slicePick_size_le _ _ _ _) (by simpa using hSl)
  refine addL hl₂ hD₂.isList (by simp only [List.size_toArray, List.length_cons, List.length_nil]; omega) fun h₃ XL hX k₃ hXn => ?_
  have F₂ := F₁.kept k₂
  have F₃ := F₂.kept k₃
  have nX := F₂.new hXn
  refine iterL hX.isList fun h₄ I hI k₄ hIn => ?_
  have nI := F₃.new hIn
  have F₄ := F₃.kept k₄
  have W₄ := ((((W.ext k₁ no).ext k₂ no).ext k₃ no).ext k₄ no)
  have hX₄ := IsList.ext hX.isList k₄ id
  have hHI : H ≠ I := by obtain ⟨_, e⟩ := (((W.ext k₁ no).ext k₂ no).ext k₃ no).hp.list; exact Nat.ne_of_lt (Nat.lt_of_lt_of_le (Heap.lt_size e) hIn)
  have hHX : H ≠ XL := by obtain ⟨_, e⟩ := ((W.ext k₁ no).ext k₂ no).hp.list; exact Nat.ne_of_lt (Nat.lt_of_lt_of_le (Heap.lt_size e) hXn)
  have hXI : XL ≠ I := by obtain ⟨_, e⟩ := hX; exact Nat.ne_of_lt (Nat.lt_of_lt_of_le (Heap.lt_size e) hIn)
  generalize hits : [Value.int 68 t1, .int 37 t2].toArray ++ slicePick sv.toArray (some ((1 : Nat) : Int)) (some ((7 : Nat) : Int)) none = items at hX₄
  have hall : ∀ i, i < items.size → ∃ a t, items[i]? = some (.int a t) := by
    obtain ⟨x, y, e⟩ := slice_form sv (some ((1 : Nat) : Int)) (some ((7 : Nat) : Int))
    rw [← hits, e, List.append_toArray]
    intro i hi
    obtain ⟨a, t, e⟩ := IntsAre.some' (IntsAre.append (.cons 68 t1 (.cons 37 t2 .nil)) ((hSi.drop x).take y)) i (by simpa using hi)
    exact ⟨a, t, by rw [List.getElem?_toArray]; exact e⟩
  refine codeAny_forLoop (fun j s' => ∃ h' tk' Ml Rl Tl ms ts xs key, s' = st s h' tk' ∧ FmC base None base L (csL L) h' (lv (.ref S) Tl) (lc Ml Rl H) ∧ Lw base L n h' Ml Rl Tl H ms ts xs key ∧ j ≤ items.size ∧ h'.IsListIter I XL (items.size - j) ∧ h'.IsList XL items) ?turn items.size
    ⟨h₄, _, Ml, Rl, Tl, ms, ts, xs, key, rfl, F₄, W₄, Nat.le_refl _, by rw [Nat.sub_self]; exact hI, hX₄⟩
  rintro j s' ⟨h₅, tk₅, Ml, Rl, Tl, ms, ts, xs, key, rfl, F₅, W₅, hj, hI₅, hX₅⟩
  have hYI : ∀ b, One I b → None b ∨ (base.objs.size ≤ b ∧ ¬ Pv L (csL L) b) := by rintro b rfl; exact .inr nI
  rcases Nat.eq_zero_or_pos j with rfl | hj0
  · refine endL hh hI₅ hX₅ (Array.getElem?_eq_none (by omega)) fun h₆ k₆ => wpAny_execs_nil ?_
    exact hq h₆ _ _ _ _ _ _ _ _ (F₅.chg k₆ hYI) (W₅.extN k₆ (iter_ne hI₅))
  · obtain ⟨a, t, ea⟩ := hall (items.size - j) (by omega)
    refine nextL hI₅ hX₅ ea fun h₆ hI₆ k₆ => ?_
    have F₆ := F₅.chg k₆ hYI
    have W₆ := W₅.extN k₆ (iter_ne hI₅)
    have hX₆ := IsList.ext hX₅ k₆ hXI
    refine wpAny_assign_Name (stFC F₆ fun h₇ _ F₇ k₇ => ?_)
    have W₇ := W₆.ext k₇ pv
    refine law_turn (n := n) (ms := ms) (ts := ts) (xs := xs) (key := key) G GT hn6 hn (F₇.sub ⟨rfl, rfl, rfl, trivial⟩ ⟨rfl, rfl, rfl, trivial⟩) W₇ hroom hu hh fun h₈ tk₈ Ml' Rl' Tl' ms' ts' xs' key' F₈ W₈ k₈ => ?_
    refine ⟨j - 1, by omega, h₈, tk₈, Ml', Rl', Tl', ms', ts', xs', key', rfl, F₈, W₈, by omega, ?_, ?_⟩
    · rw [show items.size - (j - 1) = items.size - j + 1 by omega]
      refine LiIter.ext (LiIter.ext hI₆ k₇ nI.2) k₈ ?_
      rintro (q | q)
      · exact nI.2 q
      · exact hHI q.symm
    · refine IsList.ext (IsList.ext hX₆ k₇ nX.2) k₈ ?_
      rintro (q | q)
      · exact nX.2 q
      · exact hHX q.symm
end
end Mine
end

section
open PySem PySem.W PyProof.Rows
namespace Mine
open PySem.Calls SeqAt

theorem slice_form8 (sv : List Value) : ∃ a b, b ≤ 8 ∧ slicePick sv.toArray (some ((7 : Nat) : Int)) (some ((15 : Nat) : Int)) none = ((sv.drop a).take b).toArray := by
  refine ⟨min 7 sv.length, min 15 sv.length - min 7 sv.length, by omega, ?_⟩
  rw [slicePick_plain]
  simp only [Option.elim, clipAt_nat, List.size_toArray]

section
variable {prog : Program} {w : World} {A : Around} {E : Value → Shared → Prop} {s : Shared} {h : Heap} {tk : Nat} {base : Heap} {mg mb : Str → Option Value} {L f : Addr} {cd : Value}

set_option maxHeartbeats 8000000 in
theorem law_s0 {S : Addr} {sv : List Value} {sn : List Int} (G : Gl mg mb base) (hS : base.IsList S sv.toArray) (hSi : IntsAre sv sn) (hSl : sv.length ≤ 70)
    (F : FmC base None base L (csL L) h [(Str.ofString "script", .ref S)] [])
    (hh : A.handled = none) {Q : Flow → Shared → Prop}
    (hq : ∀ h' tk' Ml vs ms, FmC base None base L (csL L) h' [(Str.ofString "script", .ref S)] [(Str.ofString "modes", .ref Ml)] → h'.PlainList Ml vs.toArray → IntsAre vs ms → 6 ≤ ms.length → ms.length ≤ 20 → base.objs.size ≤ Ml ∧ ¬ Pv L (csL L) Ml → Q .next (st s h' tk')) :
    wpAny (model prog w) A (exec (nthS dLaw.body 0) (lawEnv L f cd)) Q E (st s h tk) := by
  have sc : ∀ {h' : Heap} {v c : List (Str × Value)}, FmC base None base L (csL L) h' v c → h'.IsList S sv.toArray := fun F' => let ⟨o, ho, r⟩ := hS; ⟨o, F'.based _ _ ho, r⟩
  refine wpAny_Assign_Name (wpAny_BinOp (wpAny_List (wpAny_items_cons (cI fun t1 _ => wpAny_items_cons (cI fun t2 _ => wpAny_items_cons (cI fun t3 _ => wpAny_items_cons (cI fun t4 _ => ?_)))))))
  refine wpAny_items_cons (Call_ (blG F.based G (by decide) boot_sum (callWith_builtin1 (args_cons ?_))))
  refine sliceL (s := s) (ldFC F rfl (wpAny_evalPart_none (wpAny_evalPart_some (cI fun _ _ => ?_))))
  refine ⟨S, _, none, some ((1 : Nat) : Int), h, _, rfl, rfl, sc F, by rw [List.size_toArray]; omega, .none, .int _ _, fun h₁ D₁ hD₁ k₁ _ => args_nil ?_⟩
  obtain ⟨x1, y1, e1⟩ := slice_form sv none (some ((1 : Nat) : Int))
  rw [e1] at hD₁
  refine sumL hh hD₁.isList ((hSi.drop x1).take y1) fun h₂ tk₂ t5 k₂ => ?_
  have F₂ := (F.kept k₁).kept k₂
  refine wpAny_items_cons (cI fun t6 _ => wpAny_items_nil ⟨by simp [sizeLine_eq], ?_⟩)
  generalize hsum : ((sn.drop x1).take y1).sum = sm
  have k₃ : Ext None h₂ _ := Ext.push (h := h₂) (o := { cls := .type "list", dict := none, data := .seq [Value.int 35309 t1, .int 33152 t2, .int 33279 t3, .int 33188 t4, .int sm t5, .int 33261 t6].toArray })
  have hl₃ := Heap.get?_push_size h₂ (o := { cls := .type "list", dict := none, data := .seq [Value.int 35309 t1, .int 33152 t2, .int 33279 t3, .int 33188 t4, .int sm t5, .int 33261 t6].toArray }) rfl
  generalize hh₃ : h₂.push { cls := .type "list", dict := none, data := .seq [Value.int 35309 t1, .int 33152 t2, .int 33279 t3, .int 33188 t4, .int sm t5, .int 33261 t6].toArray } = h₃ at k₃ hl₃
  have F₃ := F₂.kept k₃
  show wpAny _ _ _ _ _ (st s (h₂.push { cls := .type "list", dict := none, data := .seq [Value.int 35309 t1, .int 33152 t2, .int 33279 t3, .int 33188 t4, .int sm t5, .int 33261 t6].toArray }) _)
  rw [hh₃]
  refine sliceL (s := s) (ldFC F₃ rfl (wpAny_evalPart_some (cI fun _ _ => wpAny_evalPart_some (cI fun _ _ => ?_))))
  refine ⟨S, _, some ((7 : Nat) : Int), some ((15 : Nat) : Int), h₃, _, rfl, rfl, sc F₃, by rw [List.size_toArray]; omega, .int _ _, .int _ _, fun h₄ D₄ hD₄ k₄ _ => ?_⟩
  obtain ⟨x2, y2, hy, e2⟩ := slice_form8 sv
  rw [e2] at hD₄
  have hl₄ : h₄.IsList h₂.objs.size [Value.int 35309 t1, .int 33152 t2, .int 33279 t3, .int 33188 t4, .int sm t5, .int 33261 t6].toArray := ⟨_, k₄ _ _ id hl₃, rfl, 0, rfl⟩
  have hlen : ((sv.drop x2).take y2).length ≤ 8 := by rw [List.length_take]; omega
  refine addL hl₄ hD₄.isList (by simp only [List.size_toArray, List.length_cons, List.length_nil]; omega) fun h₅ M hM k₅ hMn => ?_
  have F₄ := F₃.kept k₄
  have nM := F₄.new hMn
  rw [List.append_toArray] at hM
  refine stCC' (F₄.kept k₅) fun h₆ _ F₆ k₆ => hq h₆ _ M _ _ F₆ (PlainList.ext hM k₆ nM.2)
    (IntsAre.append (.cons 35309 t1 (.cons 33152 t2 (.cons 33279 t3 (.cons 33188 t4 (.cons sm t5 (.cons 33261 t6 .nil)))))) ((hSi.drop x2).take y2)) ?_ ?_ nM
  · simp only [List.length_append, List.length_cons, List.length_nil]; omega
  · have hl2 := ((hSi.drop x2).take y2).length
    simp only [List.length_append, List.length_cons, List.length_nil]
    omega
end
end Mine
end

section
open PySem PySem.W PyProof.Rows
namespace Mine
open PySem.Calls SeqAt

section
variable {prog : Program} {w : World} {A : Around} {E : Value → Shared → Prop} {s : Shared} {h : Heap} {tk : Nat} {base : Heap} {mg mb : Str → Option Value} {L f : Addr} {cd : Value}

/-- the frame with the modes -/
structure Md (base : Heap) (L S Ml : Addr) (vs : List Value) (h : Heap) : Prop where
  F : FmC base None base L (csL L) h [(Str.ofString "script", .ref S)] [(Str.ofString "modes", .ref Ml)]
  M : h.PlainList Ml vs.toArray
theorem Md.kept {S Ml : Addr} {vs : List Value} {h' : Heap} (x : Md base L S Ml vs h) (k : Ext None h h') : Md base L S Ml vs h' := ⟨x.F.kept k, PlainList.ext x.M k id⟩

set_option maxHeartbeats 8000000 in
theorem law_s1 {S Ml : Addr} {vs : List Value} {ms : List Int} (G : Gl mg mb base) (GT : TabG mg base)
    (X : Md base L S Ml vs h) (hint : IntsAre vs ms) (hm1 : ms.length ≤ 20)
    (nM : base.objs.size ≤ Ml ∧ ¬ Pv L (csL L) Ml)
    (hroom : A.depth + 5 < recursionLimit) (hh : A.handled = none) {Q : Flow → Shared → Prop}
    (hq : ∀ h' tk' Rl Tl (ts : Array Addr), FmC base None base L (csL L) h' (lv (.ref S) Tl) [(Str.ofString "modes", .ref Ml), (Str.ofString "rows", .ref Rl)] → h'.PlainList Ml vs.toArray → RowsAt h' Rl (fun k => rowM (ms.getD k 0)) ms.length →
      h'.PlainList Tl (ts.map Value.ref) → ts.size = ms.length → (∀ i, i < ms.length → ItemAt h' (fAt ts i) (rowM (ms.getD i 0), (i : Int))) → base.objs.size ≤ Rl ∧ ¬ Pv L (csL L) Rl → base.objs.size ≤ Tl ∧ ¬ Pv L (csL L) Tl →
      (∀ a, a ∈ ts → base.objs.size ≤ a ∧ ¬ Pv L (csL L) a) → Q .next (st s h' tk')) :
    wpAny (model prog w) A (exec (nthS dLaw.body 1) (lawEnv L f cd)) Q E (st s h tk) := by
  have hvl : vs.toArray.size = ms.length := by rw [List.size_toArray, hint.length]
  have hMlt : ∀ {h' : Heap}, h'.PlainList Ml vs.toArray → Ml < h'.objs.size := fun ⟨_, e⟩ => Heap.lt_size e
  refine Assign_Tuple (tupleI (s := s) (args_cons ?_))
  -- [_law_row(mode) for mode in modes]
  refine compJ (s := s) (cl := []) rfl (by decide) rfl (by decide) rfl ?_
  refine ldCC' X.F rfl (iterL X.M.isList fun h₁ I hI k₁ hIn => ?_)
  have X₁ := X.kept k₁
  have nI := X.F.new hIn
  have hMI : Ml ≠ I := Nat.ne_of_lt (Nat.lt_of_lt_of_le (hMlt X.M) hIn)
  refine ⟨h₁, _, I, _, _, _, _, _, rfl, rfl, Walks.list hh I Ml hMI vs.toArray, by rw [hvl]; omega, ⟨hI, X₁.M.isList⟩, ?_, fun D C hD hDC => ?_⟩
  · intro b hb
    simp only [List.mem_cons, List.not_mem_nil, or_false] at hb
    rcases hb with rfl | rfl
    · obtain ⟨_, e, _⟩ := hI; exact Heap.lt_size e
    · exact hMlt X₁.M
  have nD := X₁.F.new hD
  have nC := X₁.F.new (Nat.le_trans hD (Nat.le_of_lt hDC))
  have hDlt : ∀ {h' : Heap} {v : Array Value}, h'.PlainList D v → D < h'.objs.size := fun ⟨_, e⟩ => Heap.lt_size e
  have hY : ∀ b, (b = C ∨ b = D ∨ b ∈ [I]) → None b ∨ (base.objs.size ≤ b ∧ ¬ Pv L (csL L) b) := by
    rintro b (rfl | rfl | hb)
    · exact .inr nC
    · exact .inr nD
    · rw [List.mem_singleton.mp hb]; exact .inr nI
  have hMY : ¬ (Ml = C ∨ Ml = D ∨ Ml ∈ [I]) := by
    have := hMlt X₁.M
    rintro (e | e | e)
    · exact Nat.lt_irrefl _ (Nat.lt_of_lt_of_le (e ▸ this) (Nat.le_trans hD (Nat.le_of_lt hDC)))
    · exact Nat.lt_irrefl _ (Nat.lt_of_lt_of_le (e ▸ this) hD)
    · exact hMI (List.mem_singleton.mp e)
  refine ⟨None, fun i ys hh => Md base L S Ml vs hh ∧ ys.size = i ∧ ∀ j, j < i → ∃ t, ys[j]? = some (.str (rowM (ms.getD j 0)) t),
    ⟨fun _ q => q.elim, fun h₄ k₄ => ⟨X₁.kept k₄, rfl, fun j hj => by omega⟩, fun i ys hh hJ => by rw [hJ.2.1]; exact Nat.le_refl _, fun i ys hh hh' hJ k => ⟨⟨hJ.1.F.chg k hY, PlainList.ext hJ.1.M k hMY⟩, hJ.2⟩, ?_⟩, ?_⟩
  · rintro i v ys h' tk m E' hi hv ⟨XJ, hys, hyt⟩ hns hmm
    have hi' : i < ms.length := by rw [← hvl]; exact hi
    obtain ⟨tv, hv'⟩ := IntsAre.at' hint i hi'
    have ev : v = .int (ms.getD i 0) tv := by
      have h1 : vs.toArray[i]? = some v := hv
      rw [List.getElem?_toArray, hv'] at h1
      exact (Option.some.inj h1).symm
    subst ev
    refine wpAny_tests_nil ⟨h', tk, rfl, Ext.refl _ _, (fun q => nomatch q), fun _ => ?_⟩
    refine Call_ (glG (d := dRow) XJ.F.based G (by simp [defs]) fun a o' pm' code' doc' g1 g2 g3 g4 => ?_)
    refine callWith_def g3 (args_cons (ldLoc' hns hmm (args_nil ⟨XJ.F.based _ _ g2, wpAny_call ?_⟩)))
    refine row_call G XJ.F.based g2 g3 g4 (by omega) hh fun h₅ tk₅ t₅ k₅ => ⟨h₅, tk₅, rfl, k₅, XJ.kept k₅, by rw [Array.size_push, hys], fun j hj => ?_⟩
    by_cases hji : j < i
    · obtain ⟨t, e⟩ := hyt j hji
      exact ⟨t, by rw [Array.getElem?_push, if_neg (by omega)]; exact e⟩
    · have : j = i := by omega
      subst this
      exact ⟨t₅, by rw [Array.getElem?_push, if_pos hys.symm]⟩
  rintro h₂ tk₂ rv ⟨X₂, hrv, hrt⟩ hD₂
  rw [hvl] at hrv
  have hrt' : ∀ j, j < ms.length → ∃ t, rv[j]? = some (.str (rowM (ms.getD j 0)) t) := fun j hj => hrt j (by rw [hvl]; exact hj)
  -- [[filemode(modes[k]), k] for k in range(len(modes))]
  refine args_cons ?_
  refine compItems (s := s) (cl := [(Str.ofString "modes", L + 1)]) (fun k => rowM (ms.getD k 0)) ms.length hh rfl (by decide) rfl (by decide) rfl ?_
  refine Call_ (blG X₂.F.based G (by decide) boot_range (callWith_type1 (args_cons (Call_ (blG X₂.F.based G (by decide) boot_len (callWith_builtin1 (args_cons (ldCC' X₂.F rfl (args_nil (lenI X₂.M.isList (by rw [hvl]; omega) fun _ _ => args_nil ?_))))))))))
  rw [hvl]
  refine rng1 fun h₃ r _ _ _ hr k₃ _ => iterR (n := ms.length) hr (by omega) (by omega) (by omega) (by omega) (by omega) fun h₄ I₂ hI₂ k₄ hIn₂ => ?_
  have X₃ := X₂.kept k₃
  have X₄ := X₃.kept k₄
  have nI₂ := X₃.F.new hIn₂
  have hD₃ := PlainList.ext hD₂ k₃ id
  have hD₄ := PlainList.ext hD₃ k₄ id
  refine ⟨h₄, _, I₂, fun hh => Md base L S Ml vs hh ∧ hh.PlainList D rv, rfl, rfl, by omega, hI₂, fun h₅ k₅ => ⟨X₄.kept k₅, PlainList.ext hD₄ k₅ id⟩, fun D' C' hD' hDC' => ⟨?_, fun hh hh' hJ k => ⟨hJ.1.kept k, PlainList.ext hJ.2 k id⟩, ?_⟩, ?_⟩
  · have nD' := X₄.F.new hD'
    have nC' := X₄.F.new (Nat.le_trans hD' (Nat.le_of_lt hDC'))
    have lo : ∀ b, b < h₃.objs.size → b < h₄.objs.size → ¬ (b = C' ∨ b = D' ∨ b ∈ [I₂]) := by
      rintro b hb hb' (e | e | e)
      · exact Nat.lt_irrefl _ (Nat.lt_of_lt_of_le (e ▸ hb') (Nat.le_trans hD' (Nat.le_of_lt hDC')))
      · exact Nat.lt_irrefl _ (Nat.lt_of_lt_of_le (e ▸ hb') hD')
      · exact Nat.lt_irrefl _ (Nat.lt_of_lt_of_le ((List.mem_singleton.mp e) ▸ hb) hIn₂)
    rintro hh hh' ⟨XJ, lJ⟩ k
    refine ⟨⟨XJ.F.chg k ?_, PlainList.ext XJ.M k (lo _ (hMlt X₃.M) (hMlt X₄.M))⟩, PlainList.ext lJ k (lo _ (hDlt hD₃) (hDlt hD₄))⟩
    rintro b (rfl | rfl | hb)
    · exact .inr nC'
    · exact .inr nD'
    · rw [List.mem_singleton.mp hb]; exact .inr nI₂
  · rintro i h' tk m t E' hi ⟨XJ, lJ⟩ hns hmm
    obtain ⟨tv, hv'⟩ := IntsAre.at' hint i hi
    have hv'' : vs.toArray[((i : Nat) : Int).toNat]? = some (.int (ms.getD i 0) tv) := by rw [Int.toNat_natCast, List.getElem?_toArray]; exact hv'
    refine Call_ (glG (d := dFilemode) XJ.F.based G (by simp [defs]) fun a o' pm' code' doc' g1 g2 g3 g4 => ?_)
    refine callWith_def g3 (args_cons (sub_list (ldCell (XJ.F.isCell (x := Str.ofString "modes") rfl rfl) (ldLoc' hns hmm ⟨Ml, _, (i : Int), _, _, rfl, rfl, XJ.M.isList, by omega, by omega, hv'', args_nil ⟨XJ.F.based _ _ g2, wpAny_call ?_⟩⟩))))
    exact filemode_call G GT XJ.F.based g2 g3 g4 (by omega) hh fun h₅ tk₅ t₅ k₅ => ⟨h₅, tk₅, t₅, rfl, rfl, k₅, XJ.kept k₅, PlainList.ext lJ k₅ id⟩
  rintro h₅ tk₅ Tl ts ⟨X₅, hR₅⟩ hTn hT hts hit hnew
  have nT := X₄.F.new hTn
  have nIt : ∀ a, a ∈ ts → base.objs.size ≤ a ∧ ¬ Pv L (csL L) a := fun a ha => X₄.F.new (hnew a ha).1
  refine args_nil ⟨_, _, rfl, by simp, fun h₆ T₆ hT₆ k₆ _ => ?_⟩
  refine asgPair (s := s) hh hT₆ fun h₇ k₇ => wpAny_assign_Name (stCC' ((X₅.F.kept k₆).kept k₇) fun h₈ _ F₈ k₈ => wpAny_assign_Name (stFC F₈ fun h₉ _ F₉ k₉ => ?_))
  have lift : ∀ {l : Addr} {v : Array Value}, h₅.PlainList l v → ¬ Pv L (csL L) l → h₉.PlainList l v := fun x y => PlainList.ext (PlainList.ext (PlainList.ext (PlainList.ext x k₆ id) k₇ id) k₈ y) k₉ y
  have nmem : ∀ i, i < ms.length → fAt ts i ∈ ts := fun i hi => fAt_mem (by omega)
  refine hq h₉ _ D Tl ts (F₉.sub ⟨rfl, rfl, trivial⟩ ⟨rfl, rfl, trivial⟩) (lift X₅.M nM.2) ⟨rv, (lift hR₅ nD.2).isList, hrv, hrt'⟩ (lift hT nT.2) hts (fun i hi => ?_) nD nT nIt
  exact ((((hit i hi).ext k₆ id).ext k₇ id).ext k₈ (nIt _ (nmem i hi)).2).ext k₉ (nIt _ (nmem i hi)).2
end
end Mine
end

section
open PySem PySem.W PyProof.Rows
namespace Mine
open PySem.Calls SeqAt

section
variable {prog : Program} {w : World} {A : Around} {E : Value → Shared → Prop} {s : Shared} {h : Heap} {tk : Nat} {base : Heap} {mg mb : Str → Option Value} {L f : Addr} {cd : Value}

set_option maxHeartbeats 8000000 in
theorem law_s23 {S Ml Rl Tl : Addr} {vs : List Value} {ms : List Int} {ts : Array Addr} {rest : List Stmt} (G : Gl mg mb base)
    (F : FmC base None base L (csL L) h (lv (.ref S) Tl) [(Str.ofString "modes", .ref Ml), (Str.ofString "rows", .ref Rl)]) (hM : h.PlainList Ml vs.toArray) (hint : IntsAre vs ms)
    (hR : RowsAt h Rl (fun k => rowM (ms.getD k 0)) ms.length) (hT : h.PlainList Tl (ts.map Value.ref)) (hts : ts.size = ms.length) (hit : ∀ i, i < ms.length → ItemAt h (fAt ts i) (rowM (ms.getD i 0), (i : Int)))
    (nM : base.objs.size ≤ Ml ∧ ¬ Pv L (csL L) Ml) (nR : base.objs.size ≤ Rl ∧ ¬ Pv L (csL L) Rl) (nT : base.objs.size ≤ Tl ∧ ¬ Pv L (csL L) Tl) (nI : ∀ a, a ∈ ts → base.objs.size ≤ a ∧ ¬ Pv L (csL L) a)
    (hm0 : 6 ≤ ms.length) (hm1 : ms.length ≤ 20)
    (hroom : A.depth + 5 < recursionLimit) (hu : A.units + 100 < cLine) (hh : A.handled = none) {Q : Flow → Shared → Prop}
    (hq : ∀ h' tk' H xs key, FmC base None base L (csL L) h' (lv (.ref S) Tl) (lc Ml Rl H) → Lw base L ms.length h' Ml Rl Tl H ms ts xs key → wpAny (model prog w) A (execs rest (lawEnv L f cd)) Q E (st s h' tk')) :
    wpAny (model prog w) A (execs (nthS dLaw.body 2 :: nthS dLaw.body 3 :: rest) (lawEnv L f cd)) Q E (st s h tk) := by
  have no : ∀ b, None b → Pv L (csL L) b ∨ b < base.objs.size := fun _ q => q.elim
  refine wpAny_execs_cons (wpAny_Assign_Name (Call_ (blG F.based G (by decide) PyProof.Rows.boot_list (callWith_type1 (args_cons (ldFC F rfl (args_nil (listL hT.isList (by rw [Array.size_map]; omega) fun h₁ H hH k₁ hHn => ?_))))))))
  have nH := F.new hHn
  have nwH : Newer h H := Newer.of (Ext.refl _ _) hHn
  refine stCC' (F.kept k₁) fun h₂ _ F₂ k₂ => ?_
  have hH₂ := PlainList.ext hH k₂ nH.2
  have hM₂ := PlainList.ext (PlainList.ext hM k₁ id) k₂ nM.2
  have hR₂ := (hR.ext k₁ id).ext k₂ nR.2
  have hT₂ := PlainList.ext (PlainList.ext hT k₁ id) k₂ nT.2
  have mem : ∀ a, a ∈ ts → ∃ j, j < ms.length ∧ fAt ts j = a := fun a ha => by
    obtain ⟨j, hj, e⟩ := Array.mem_iff_getElem.mp ha
    exact ⟨j, by omega, by simp [fAt, hj, e]⟩
  have hit₂ : ∀ i, i < ms.length → ItemAt h₂ (fAt ts i) (rowM (ms.getD i 0), (i : Int)) := fun i hi => ((hit i hi).ext k₁ id).ext k₂ (nI _ (fAt_mem (by omega))).2
  have hinj : ∀ i j, i < ms.length → j < ms.length → fAt ts i = fAt ts j → i = j := fun i j hi hj e => by
    have := ItemAt.uniq (hit i hi) (e ▸ hit j hj)
    injection this with _ h2
    omega
  classical
  let key : Addr → Str × Int := fun a => if q : ∃ j, j < ms.length ∧ fAt ts j = a then (rowM (ms.getD q.choose 0), (q.choose : Int)) else (Str.ofString "", 0)
  have hk : ∀ j, j < ms.length → key (fAt ts j) = (rowM (ms.getD j 0), (j : Int)) := fun j hj => by
    have q : ∃ j', j' < ms.length ∧ fAt ts j' = fAt ts j := ⟨j, hj, rfl⟩
    have e : q.choose = j := hinj _ _ q.choose_spec.1 hj q.choose_spec.2
    show (if q : ∃ j', j' < ms.length ∧ fAt ts j' = fAt ts j then (rowM (ms.getD q.choose 0), (q.choose : Int)) else (Str.ofString "", 0)) = _
    rw [dif_pos q, e]
  have hitk : ∀ a, a ∈ ts → ItemAt h₂ a (key a) := fun a ha => by
    obtain ⟨j, hj, rfl⟩ := mem a ha
    rw [hk j hj]; exact hit₂ j hj
  have neH : ∀ a, a ∈ ts → a ≠ H := fun a ha => by
    obtain ⟨j, hj, rfl⟩ := mem a ha
    obtain ⟨_, _, o, e, _⟩ := hit j hj
    exact Nat.ne_of_lt (nwH _ _ e)
  have hMH : Ml ≠ H := by obtain ⟨_, e⟩ := hM; exact Nat.ne_of_lt (nwH _ _ e)
  have hTH : Tl ≠ H := by obtain ⟨_, e⟩ := hT; exact Nat.ne_of_lt (nwH _ _ e)
  have hRH : Rl ≠ H := by obtain ⟨_, ⟨_, e, _⟩, _⟩ := hR; exact Nat.ne_of_lt (nwH _ _ e)
  refine wpAny_execs_cons (wpAny_If (wpAny_isTrue_BoolOp (wpAny_allTrue_Or_cons (wpAny_isTrue_Compare1 (Call_ (glG (d := dHeapify) F₂.based G (by simp [defs]) fun a o' pm' code' doc' g1 g2 g3 g4 => ?_))))))
  refine callWith_def g3 (args_cons (ldCC' F₂ rfl (args_nil ⟨F₂.based _ _ g2, wpAny_call ?_⟩)))
  refine heapify_call (xs := ts) (key := key) G F₂.based (none_of nH.1) ⟨hH₂, hitk, neH⟩ (by omega) (kle_tr key) (kle_tot key) g2 g3 g4 (by omega) (by omega) hh fun h₃ tk₃ ys hy1 hy2 hy3 hy4 => ?_
  have hY : ∀ b, One H b → None b ∨ (base.objs.size ≤ b ∧ ¬ Pv L (csL L) b) := by rintro b rfl; exact .inr nH
  have F₃ := F₂.chg hy4 hY
  have W₃ : Lw base L ms.length h₃ Ml Rl Tl H ms ts ys key :=
    ⟨⟨vs, PlainList.ext hM₂ hy4 hMH, hint⟩, rfl, hR₂.ext hy4 hRH, PlainList.ext hT₂ hy4 hTH, hy1, hy2, hk, hts, hy3, nM, nR, nT, nH, fun a ha => nI a (hy2.mem_iff.mp ha), hMH, hRH, hTH⟩
  refine wpAny_Constant_none (wpAny_isNot_self rfl (wpAny_truthy_bool ?_))
  refine wpAny_allTrue_Or_cons (wpAny_isTrue_Not (wpAny_isTrue_value (Call_ (glG (d := dStands) F₃.based G (by simp [defs]) fun a o' pm' code' doc' g1 g2 g3 g4 => ?_))))
  refine callWith_def g3 (args_cons (ldCC' F₃ rfl (args_cons (ldFC F₃ rfl (args_cons (ldCC' F₃ rfl (args_nil ⟨F₃.based _ _ g2, wpAny_call ?_⟩)))))))
  refine stands_call (n := ms.length) G F₃.based W₃.hp (by omega) (by omega) (W₃.pm.size_eq.trans hts) W₃.hf W₃.th.isList W₃.ro W₃.pm W₃.ky g2 g3 g4 (by omega) (by omega) hh fun h₄ tk₄ k₄ => ?_
  refine wpAny_truthy_bool (wpAny_allTrue_Or_nil (wpAny_execs_nil ?_))
  exact hq h₄ _ H ys key ((F₃.kept k₄).sub ⟨rfl, rfl, trivial⟩ ⟨rfl, rfl, rfl, trivial⟩) (W₃.ext k₄ no)
end
end Mine
end

section
open PySem PySem.W PyProof.Rows
namespace Mine
open PySem.Calls SeqAt

theorem kle_rf (key : Addr → Str × Int) (a : Addr) : kle key a a := by
  by_cases h : kle key a a
  · exact h
  · exact kle_tot key a a h

/-- what is popped so far -/
structure Pop (key : Addr → Str × Int) (xs : Array Addr) (n i : Nat) (zs ps : Array Addr) : Prop where
  hf : HeapFrom (kle key) zs.size 0 (fAt zs)
  pm : (zs.toList ++ ps.toList).Perm xs.toList
  zz : zs.size + i = n
  pz : ps.size = i
  so : ps.toList.Pairwise (kle key)
  cr : ∀ a ∈ ps, ∀ b ∈ zs, kle key a b

theorem Pop.step {key : Addr → Str × Int} {xs zs ps ys : Array Addr} {n i : Nat} (x : Pop key xs n i zs ps) (hi : i < n) (hy : (ys.push (fAt zs 0)).Perm zs) (hf : HeapFrom (kle key) ys.size 0 (fAt ys)) :
    Pop key xs n (i + 1) ys (ps.push (fAt zs 0)) := by
  have hz : 0 < zs.size := by have := x.zz; omega
  have hys : ys.size + 1 = zs.size := by have := hy.size_eq; rw [Array.size_push] at this; exact this
  have sub : ∀ b, b ∈ ys → b ∈ zs := fun b hb => hy.mem_iff.mp (Array.mem_push.mpr (.inl hb))
  refine ⟨hf, ?_, by have := x.zz; omega, by rw [Array.size_push, x.pz], ?_, ?_⟩
  · have h1 : (ys.toList ++ [fAt zs 0]).Perm zs.toList := by
      have := Array.perm_iff_toList_perm.mp hy
      rwa [Array.toList_push] at this
    rw [Array.toList_push]
    have h2 : (ys.toList ++ (ps.toList ++ [fAt zs 0])).Perm ((ys.toList ++ [fAt zs 0]) ++ ps.toList) := by
      rw [List.append_assoc]
      exact List.Perm.append_left _ List.perm_append_comm
    exact (h2.trans (h1.append_right _)).trans x.pm
  · rw [Array.toList_push, List.pairwise_append]
    refine ⟨x.so, List.pairwise_singleton _ _, fun a ha b hb => ?_⟩
    rw [List.mem_singleton.mp hb]
    exact x.cr a (by simpa using ha) _ (fAt_mem hz)
  · intro a ha b hb
    rcases Array.mem_push.mp ha with ha | rfl
    · exact x.cr a ha b (sub b hb)
    · obtain ⟨j, hj, e⟩ := Array.mem_iff_getElem.mp (sub b hb)
      have e' : fAt zs j = b := by simp [fAt, hj, e]
      rw [← e']
      exact HeapFrom.top (kle_tr key) (kle_rf key) x.hf j hj

section
variable {prog : Program} {w : World} {A : Around} {E : Value → Shared → Prop} {s : Shared} {h : Heap} {tk : Nat} {base : Heap} {mg mb : Str → Option Value} {L f : Addr} {cd : Value}

set_option maxHeartbeats 8000000 in
theorem law_s5 {n : Nat} {Ml Rl Tl H S : Addr} {ms : List Int} {ts xs : Array Addr} {key : Addr → Str × Int} (G : Gl mg mb base) (hn6 : 6 ≤ n) (hn : n ≤ 20)
    (F : FmC base None base L (csL L) h (lv (.ref S) Tl) (lc Ml Rl H)) (W : Lw base L n h Ml Rl Tl H ms ts xs key)
    (hroom : A.depth + 5 < recursionLimit) (hu : A.units + 100 < cLine) (hh : A.handled = none) {Q : Flow → Shared → Prop}
    (hq : ∀ h' tk', FmC base None base L (csL L) h' (lv (.ref S) Tl) (lc Ml Rl H) → h'.PlainList H #[] → Q .next (st s h' tk')) :
    wpAny (model prog w) A (exec (nthS dLaw.body 5) (lawEnv L f cd)) Q E (st s h tk) := by
  have xz : xs.size = n := W.pm.size_eq.trans W.tz
  have hHlt : ∀ {h' : Heap} {v : Array Value}, h'.PlainList H v → H < h'.objs.size := fun ⟨_, e⟩ => Heap.lt_size e
  have hIlt : ∀ {h' : Heap} {a : Addr} {x : Str × Int}, ItemAt h' a x → a < h'.objs.size := fun ⟨_, _, _, e, _⟩ => Heap.lt_size e
  have hRlt : ∀ {h' : Heap}, RowsAt h' Rl (fun k => rowM (ms.getD k 0)) n → Rl < h'.objs.size := fun ⟨_, ⟨_, e, _⟩, _⟩ => Heap.lt_size e
  refine wpAny_If (wpAny_isTrue_BoolOp (wpAny_allTrue_Or_cons (wpAny_isTrue_Compare1 ?_)))
  refine compJ (s := s) (cl := [(Str.ofString "heap", L + 3)]) rfl (by decide) rfl (by decide) rfl ?_
  obtain ⟨ri, hri, hrz, hrs⟩ := id W.ro
  refine ldCC' F rfl (iterL hri fun h₁ I hI k₁ hIn => ?_)
  have F₁ := F.kept k₁
  have nI := F.new hIn
  have hRI : Rl ≠ I := Nat.ne_of_lt (Nat.lt_of_lt_of_le (hRlt W.ro) hIn)
  have hHI : H ≠ I := Nat.ne_of_lt (Nat.lt_of_lt_of_le (hHlt W.hp.list) hIn)
  have ro₁ := W.ro.ext k₁ id
  have hp₁ : HpAt h₁ H xs key := W.hp.ext k₁ id fun _ _ => id
  refine ⟨h₁, _, I, _, _, _, _, _, rfl, rfl, Walks.list hh I Rl hRI ri, by rw [hrz]; omega, ⟨hI, IsList.ext hri k₁ id⟩, ?_, fun D C hD hDC => ?_⟩
  · intro b hb
    simp only [List.mem_cons, List.not_mem_nil, or_false] at hb
    rcases hb with rfl | rfl
    · obtain ⟨_, e, _⟩ := hI; exact Heap.lt_size e
    · exact hRlt ro₁
  have nD := F₁.new hD
  have nC := F₁.new (Nat.le_trans hD (Nat.le_of_lt hDC))
  have hY : ∀ b, (b = C ∨ b = D ∨ b ∈ [I]) → None b ∨ (base.objs.size ≤ b ∧ ¬ Pv L (csL L) b) := by
    rintro b (rfl | rfl | hb)
    · exact .inr nC
    · exact .inr nD
    · rw [List.mem_singleton.mp hb]; exact .inr nI
  have hYH : ∀ b, One H b → None b ∨ (base.objs.size ≤ b ∧ ¬ Pv L (csL L) b) := by rintro b rfl; exact .inr W.oH
  have lo : ∀ b, b < h.objs.size → b < h₁.objs.size → ¬ (b = C ∨ b = D ∨ b ∈ [I]) := by
    rintro b hb hb' (e | e | e)
    · exact Nat.lt_irrefl _ (Nat.lt_of_lt_of_le (e ▸ hb') (Nat.le_trans hD (Nat.le_of_lt hDC)))
    · exact Nat.lt_irrefl _ (Nat.lt_of_lt_of_le (e ▸ hb') hD)
    · exact Nat.lt_irrefl _ (Nat.lt_of_lt_of_le ((List.mem_singleton.mp e) ▸ hb) hIn)
  have mz : ∀ {zs ps : Array Addr} {i : Nat}, Pop key xs n i zs ps → ∀ a, a ∈ zs → a ∈ xs := fun P a ha => by
    have := P.pm.mem_iff (a := a)
    simpa using this.mp (by simp [ha])
  have loI : ∀ a, a ∈ xs → ¬ (a = C ∨ a = D ∨ a ∈ [I]) := fun a ha => lo a (hIlt (W.hp.items a ha)) (hIlt (hp₁.items a ha))
  have loH := lo H (hHlt W.hp.list) (hHlt hp₁.list)
  refine ⟨One H, fun i ys hh => FmC base None base L (csL L) hh (lv (.ref S) Tl) (lc Ml Rl H) ∧ RowsAt hh Rl (fun k => rowM (ms.getD k 0)) n ∧ (∀ a, a ∈ xs → ItemAt hh a (key a)) ∧ ∃ zs ps, hh.PlainList H (zs.map Value.ref) ∧ ys = ps.map Value.ref ∧ Pop key xs n i zs ps,
    ⟨?_, fun h₄ k₄ => ⟨F₁.kept k₄, ro₁.ext k₄ id, fun a ha => (hp₁.items a ha).ext k₄ id, xs, #[], PlainList.ext hp₁.list k₄ id, by simp, W.hf, by simp, by omega, rfl, List.Pairwise.nil, fun a ha => by simp at ha⟩, ?_, ?_, ?_⟩, ?_⟩
  · rintro b rfl
    refine ⟨hHlt hp₁.list, ?_⟩
    intro hb
    simp only [List.mem_cons, List.not_mem_nil, or_false] at hb
    rcases hb with e | e
    · exact hHI e
    · exact W.nR e.symm
  · rintro i ys hh ⟨_, _, _, zs, ps, _, rfl, P⟩
    rw [Array.size_map, P.pz]; exact Nat.le_refl _
  · rintro i ys hh hh' ⟨FJ, rJ, iJ, zs, ps, lJ, rfl, P⟩ k
    exact ⟨FJ.chg k hY, rJ.ext k (lo Rl (hRlt W.ro) (hRlt ro₁)), fun a ha => (iJ a ha).ext k (loI a ha), zs, ps, PlainList.ext lJ k loH, rfl, P⟩
  · rintro i v ys h' tk m E' hi hv ⟨FJ, rJ, iJ, zs, ps, lJ, rfl, P⟩ hns hmm
    have hi' : i < n := by rw [← hrz]; exact hi
    refine wpAny_tests_nil ⟨h', tk, rfl, Ext.refl _ _, (fun q => nomatch q), fun _ => ?_⟩
    refine Call_ (glG (d := dHeappop) FJ.based G (by simp [defs]) fun a o' pm' code' doc' g1 g2 g3 g4 => ?_)
    refine callWith_def g3 (args_cons (ldCell (FJ.isCell (x := Str.ofString "heap") rfl rfl) (args_nil ⟨FJ.based _ _ g2, wpAny_call ?_⟩)))
    have zz := P.zz
    refine heappop_call (xs := zs) (key := key) G FJ.based (none_of W.oH.1) ⟨lJ, fun a ha => iJ a (mz P a ha), fun a ha => W.hp.ne a (mz P a ha)⟩ (by omega) (by omega) P.hf (kle_tr key) (kle_tot key) g2 g3 g4 (by omega) (by omega) fun h₅ tk₅ ys hy1 hy2 hy3 hy4 => ?_
    refine ⟨h₅, tk₅, rfl, hy4, FJ.chg hy4 hYH, rJ.ext hy4 W.nR, fun a ha => (iJ a ha).ext hy4 (W.hp.ne a ha), ys, ps.push (fAt zs 0), hy1.list, by simp, P.step hi' hy2 hy3⟩
  rintro h₂ tk₂ _ ⟨F₂, ro₂, it₂, zs, cs, lH₂, rfl, P⟩ hD₂
  rw [hrz] at P
  have hzs : zs = #[] := by
    have := P.zz
    exact Array.eq_empty_of_size_eq_zero (by omega)
  subst hzs
  have hcp : cs.toList.Perm xs.toList := by simpa using P.pm
  have lH₂' : h₂.PlainList H #[] := by simpa using lH₂
  have nwD : ∀ b, b < h₁.objs.size → b ≠ D := fun b hb => Nat.ne_of_lt (Nat.lt_of_lt_of_le hb hD)
  -- sorted([[rows[k], k] for k in range(len(rows))])
  refine Call_ (blG F₂.based G (by decide) boot_sorted (callWith_builtin1 (args_cons ?_)))
  refine compItems (s := s) (cl := [(Str.ofString "rows", L + 2)]) (fun k => rowM (ms.getD k 0)) n hh rfl (by decide) rfl (by decide) rfl ?_
  obtain ⟨its, hlR, hzR, hatR⟩ := id ro₂
  refine Call_ (blG F₂.based G (by decide) boot_range (callWith_type1 (args_cons (Call_ (blG F₂.based G (by decide) boot_len (callWith_builtin1 (args_cons (ldCC' F₂ rfl (args_nil (lenI hlR (by omega) fun _ _ => args_nil ?_))))))))))
  rw [hzR]
  refine rng1 fun h₃ r _ _ _ hr k₃ _ => iterR (n := n) hr (by omega) (by omega) (by omega) (by omega) (by omega) fun h₄ I₂ hI₂ k₄ hIn₂ => ?_
  have F₃ := F₂.kept k₃
  have F₄ := F₃.kept k₄
  have nI₂ := F₃.new hIn₂
  have k24 : Ext None h₂ h₄ := k₃.trans k₄
  refine ⟨h₄, _, I₂, fun hh => FmC base None base L (csL L) hh (lv (.ref S) Tl) (lc Ml Rl H) ∧ RowsAt hh Rl (fun k => rowM (ms.getD k 0)) n ∧ (∀ a, a ∈ xs → ItemAt hh a (key a)) ∧ hh.PlainList H #[] ∧ hh.PlainList D (cs.map Value.ref),
    rfl, rfl, by omega, hI₂, fun h₅ k₅ => ⟨F₄.kept k₅, (ro₂.ext k24 id).ext k₅ id, fun a ha => ((it₂ a ha).ext k24 id).ext k₅ id, PlainList.ext (PlainList.ext lH₂' k24 id) k₅ id, PlainList.ext (PlainList.ext hD₂ k24 id) k₅ id⟩,
    fun D' C' hD' hDC' => ⟨?_, fun hh hh' hJ k => ⟨hJ.1.kept k, hJ.2.1.ext k id, fun a ha => (hJ.2.2.1 a ha).ext k id, PlainList.ext hJ.2.2.2.1 k id, PlainList.ext hJ.2.2.2.2 k id⟩, ?_⟩, ?_⟩
  · have nD' := F₄.new hD'
    have nC' := F₄.new (Nat.le_trans hD' (Nat.le_of_lt hDC'))
    have lo' : ∀ b o, h₂.get? b = some o → ¬ (b = C' ∨ b = D' ∨ b ∈ [I₂]) := by
      rintro b o hb (e | e | e)
      · exact Nat.lt_irrefl _ (Nat.lt_of_lt_of_le (e ▸ Heap.lt_size (k24 _ _ id hb)) (Nat.le_trans hD' (Nat.le_of_lt hDC')))
      · exact Nat.lt_irrefl _ (Nat.lt_of_lt_of_le (e ▸ Heap.lt_size (k24 _ _ id hb)) hD')
      · exact Nat.lt_irrefl _ (Nat.lt_of_lt_of_le ((List.mem_singleton.mp e) ▸ Heap.lt_size (k₃ _ _ id hb)) hIn₂)
    rintro hh hh' ⟨FJ, rJ, iJ, lJ, dJ⟩ k
    refine ⟨FJ.chg k ?_, rJ.ext k ?_, fun a ha => (iJ a ha).ext k ?_, PlainList.ext lJ k ?_, PlainList.ext dJ k ?_⟩
    · rintro b (rfl | rfl | hb)
      · exact .inr nC'
      · exact .inr nD'
      · rw [List.mem_singleton.mp hb]; exact .inr nI₂
    · obtain ⟨_, e, _⟩ := hlR; exact lo' _ _ e
    · obtain ⟨_, _, _, e, _⟩ := it₂ a ha; exact lo' _ _ e
    · obtain ⟨_, e⟩ := lH₂'; exact lo' _ _ e
    · obtain ⟨_, e⟩ := hD₂; exact lo' _ _ e
  · rintro i h' tk m t E' hi ⟨FJ, rJ, iJ, lJ, dJ⟩ hns hmm
    obtain ⟨its', hlR', hzR', hatR'⟩ := id rJ
    obtain ⟨tt, hat⟩ := hatR' i hi
    exact sub_list (ldCell (FJ.isCell (x := Str.ofString "rows") rfl rfl) (ldLoc' hns hmm ⟨Rl, _, (i : Int), _, .str (rowM (ms.getD i 0)) tt, rfl, rfl, hlR', by omega, by omega, hat, h', _, tt, rfl, rfl, Ext.refl _ _, FJ, rJ, iJ, lJ, dJ⟩))
  rintro h₅ tk₅ D₂ bs ⟨F₅, ro₅, it₅, lH₅, hD₅⟩ hDn₂ lD₂ hbs hit hnew
  have hinj : ∀ i j, i < n → j < n → fAt bs i = fAt bs j → i = j := fun i j hi hj e => by
    have := ItemAt.uniq (hit i hi) (e ▸ hit j hj)
    injection this with _ h2
    omega
  classical
  let key₂ : Addr → Str × Int := fun a => if q : ∃ j, j < n ∧ fAt bs j = a then (rowM (ms.getD q.choose 0), (q.choose : Int)) else key a
  have hk₂ : ∀ j, j < n → key₂ (fAt bs j) = (rowM (ms.getD j 0), (j : Int)) := fun j hj => by
    have q : ∃ j', j' < n ∧ fAt bs j' = fAt bs j := ⟨j, hj, rfl⟩
    have e : q.choose = j := hinj _ _ q.choose_spec.1 hj q.choose_spec.2
    show (if q : ∃ j', j' < n ∧ fAt bs j' = fAt bs j then (rowM (ms.getD q.choose 0), (q.choose : Int)) else key (fAt bs j)) = _
    rw [dif_pos q, e]
  have memb : ∀ a, a ∈ bs → ∃ j, j < n ∧ fAt bs j = a := fun a ha => by
    obtain ⟨j, hj, e⟩ := Array.mem_iff_getElem.mp ha
    exact ⟨j, by omega, by simp [fAt, hj, e]⟩
  refine args_nil (sortedI (key := key₂) lD₂.isList (fun a ha => ?_) (by omega) (by omega) (by omega) fun h₆ D₃ ds lD₃ hds hs₂ k₆ _ => ?_)
  · obtain ⟨j, hj, rfl⟩ := memb a ha
    rw [hk₂ j hj]; exact hit j hj
  have F₆ := F₅.kept k₆
  have e1 : cs.toList.map key = ds.toList.map key₂ := by
    refine sorted_uniq ?_ (List.pairwise_map.mpr P.so) (List.pairwise_map.mpr hs₂)
    have p1 : (cs.toList.map key).Perm (ts.toList.map key) := (hcp.trans (Array.perm_iff_toList_perm.mp W.pm)).map key
    have p2 : (ds.toList.map key₂).Perm (bs.toList.map key₂) := (hds.toList).map key₂
    have e2 : ts.toList.map key = bs.toList.map key₂ := by
      have := W.tz
      apply List.ext_getElem?
      intro i
      by_cases hi : i < n
      · have a1 : ts.toList[i]? = some (fAt ts i) := by rw [Array.getElem?_toList]; exact fAt_get (by omega)
        have a2 : bs.toList[i]? = some (fAt bs i) := by rw [Array.getElem?_toList]; exact fAt_get (by omega)
        rw [List.getElem?_map, List.getElem?_map, a1, a2, Option.map_some, Option.map_some, W.ky i hi, hk₂ i hi]
      · rw [List.getElem?_eq_none (by simp; omega), List.getElem?_eq_none (by simp; omega)]
    exact p1.trans (e2 ▸ p2.symm)
  have hcz : cs.size = n := P.pz
  have hdz : ds.size = n := hds.size_eq.trans hbs
  have hcm : ∀ a, a ∈ cs → a ∈ xs := fun a ha => by simpa using hcp.mem_iff.mp (by simpa using ha)
  refine neLists (PlainList.ext hD₅ k₆ id).isList lD₃.isList (by omega) (fun i hi => ⟨key (fAt cs i), (it₅ _ (hcm _ (fAt_mem hi))).ext k₆ id, ?_⟩) (by omega) (wpAny_truthy_bool ?_)
  · have e3 := congrArg (fun l => l[i]?) e1
    have a1 : cs.toList[i]? = some (fAt cs i) := by rw [Array.getElem?_toList]; exact fAt_get (by omega)
    have a2 : ds.toList[i]? = some (fAt ds i) := by rw [Array.getElem?_toList]; exact fAt_get (by omega)
    simp only [List.getElem?_map, a1, a2, Option.map_some, Option.some.injEq] at e3
    rw [e3]
    have hmem : fAt ds i ∈ bs := hds.mem_iff.mp (fAt_mem (by omega))
    obtain ⟨j, hj, ej⟩ := memb _ hmem
    rw [← ej, hk₂ j hj]
    exact (hit j hj).ext k₆ id
  -- heap != []
  have lH₆ := PlainList.ext lH₅ k₆ id
  refine wpAny_allTrue_Or_cons (wpAny_isTrue_Compare1 (ldCC' F₆ rfl (listNil fun h₇ D₇ hD₇ k₇ _ => neNil (PlainList.ext lH₆ k₇ id).isList hD₇.isList (by omega) (wpAny_truthy_bool (wpAny_allTrue_Or_nil (wpAny_execs_nil ?_))))))
  exact hq h₇ _ (F₆.kept k₇) (PlainList.ext lH₆ k₇ id)
end
end Mine
end

section
open PySem PySem.W PyProof.Rows
namespace Mine
open PySem.Calls SeqAt

section
variable {prog : Program} {w : World} {A : Around} {E : Value → Shared → Prop} {s : Shared} {h : Heap} {tk : Nat} {base : Heap} {mg mb : Str → Option Value} {L f : Addr} {cd : Value}

theorem popNone {l : Addr} {Q : Value → Shared → Prop} (hh : A.handled = none) (hl : h.PlainList l #[])
    (hE : ∀ h' tk' e, Heap.NewExc h h' e "IndexError" → E (.ref e) (st s h' tk')) :
    wpAny (model prog w) A (call (.builtin "list.pop") [.ref l]) Q E (st s h tk) := by
  obtain ⟨n, ho⟩ := hl
  exact call_meets (s := st s h tk) PySem.F.slot_list_pop ⟨_, ho, rfl⟩ PySem.F.entry_list_pop (PySem.F.args_list_pop_1 _) (PySem.AutoSeq1.list_pop_list_0 l #[] n rfl) ⟨ho, hh, fun h' tk' e x => hE h' tk' e x⟩

theorem heappop_none {R : Result → Shared → Prop} {H : Addr} {o : Obj} {outer : List Env} {pm cd doc : Value} (G : Gl mg mb base)
    (B : Below A base outer h) (hp : h.PlainList H #[])
    (ho : base.get? f = some o) (hdata : o.data = .func (docDef dHeappop.name dHeappop.params dHeappop.body dHeappop.scope pm cd doc)) (hcd : base.CodeRec cd dHeappop.name)
    (hroom : A.depth + 2 < recursionLimit) (hh : A.handled = none)
    (hq : ∀ h' tk' e a0, Heap.FlyingW base outer e (.type "IndexError") a0 h' → R (.error (.ref e)) (st s h' tk')) :
    codeAny (model prog w) A (.call (.ref f) ⟨[.ref H], []⟩) R (st s h tk) := by
  refine call_plain (s := st s h tk) (by omega) (B.stays _ _ ho) hdata (G.nolimit.keeps B.stays) (hcd.keeps B.stays) rfl (locs rfl) fun h₁ F => ?_
  have lst₁ : h₁.PlainList H #[] := PlainList.ext hp (fun b o _ e => F.keep b o e : Ext None h h₁) id
  refine wpAny_execs_cons (wpAny_Assign_Name (MethodCall_ (ld F rfl (methP PySem.F.slot_list_pop PySem.F.type_list_pop lst₁ (callWith_method0 (popNone hh lst₁ fun h₂ tk₂ e x => ?_))))))
  refine leave_newK (news := []) B x F (fun _ q => nomatch q) fun h₃ R' _ => ?_
  obtain ⟨B', a0, hB, _, hfl⟩ := R'
  exact hq h₃ _ e a0 (flyingW_base hB hfl)

set_option maxHeartbeats 8000000 in
theorem law_s6 {Ml Rl Tl H S : Addr} (G : Gl mg mb base) (F : FmC base None base L (csL L) h (lv (.ref S) Tl) (lc Ml Rl H)) (hp : h.PlainList H #[])
    (hfr : A.frames = some [lawEnv L f cd]) (hroom : A.depth + 5 < recursionLimit) (hh : A.handled = none) {Q : Flow → Shared → Prop}
    (hq : ∀ h' tk', base.StaysIn h' → Q (.ret (.bool true)) (st s h' tk')) :
    wpAny (model prog w) A (exec (nthS dLaw.body 6) (lawEnv L f cd)) Q E (st s h tk) := by
  refine wpAny_noRaise (wpAny_Try_except ?_)
  have B : Below A base [lawEnv L f cd] h := by
    refine ⟨hfr, F.based, ?_⟩
    obtain ⟨m, hn, _⟩ := F.fm.ns
    exact .cons (by show dLaw.scope.kind ≠ .module; decide) rfl hn (none_of F.fm.above) trivial
  refine wpAny_execs_cons (wpAny_Return_some (wpAny_Compare1 (wpAny_List (wpAny_items_cons (Call_ (glG (d := dHeappop) F.based G (by simp [defs]) fun a o' pm' code' doc' g1 g2 g3 g4 => ?_))))))
  refine callWith_def g3 (args_cons (ldCC' F rfl (args_nil ⟨F.based _ _ g2, wpAny_call ?_⟩)))
  refine heappop_none G B hp g2 g3 g4 (by omega) hh fun h₁ tk₁ e a0 fl => ?_
  refine wpAny_looks_onW hfr rfl fl fun h₂ held₂ _ => ?_
  refine wpAny_landsW held₂ fun h₃ fl₃ _ => ?_
  obtain ⟨ob, hob, hobc⟩ := fl₃.there
  refine wpAny_handleBy_builtin (X := "IndexError") (T := "IndexError") (b := true) PySem.F.isExc_IndexError PySem.F.notTuple_IndexError (by rw [isSubtype_type]; kernel_rfl) ?_
  refine blG (s := s) (h := h₃) fl₃.1 G (by decide) PyProof.Rows.Boot.«IndexError» ⟨rfl, ⟨ob, hob, hobc⟩, ?_⟩
  refine lands_againW fl₃ fun h₄ fl₄ _ => ?_
  refine wpAny_passesOwnAt PassesOwnAt.never (wpAny_execs_cons (wpAny_Return_some (wpAny_Constant_bool ?_)))
  exact hq h₄ _ fl₄.1
end
end Mine
end

section
open PySem PySem.W PyProof.Rows
namespace Mine
open PySem.Calls SeqAt

theorem law_is : dLaw.body = [nthS dLaw.body 0, nthS dLaw.body 1, nthS dLaw.body 2, nthS dLaw.body 3, nthS dLaw.body 4, nthS dLaw.body 5, nthS dLaw.body 6] := by rfl

section
variable {prog : Program} {w : World} {A : Around} {E : Value → Shared → Prop} {s : Shared} {h : Heap} {tk : Nat} {base : Heap} {mg mb : Str → Option Value} {L f : Addr} {cd : Value}

set_option maxHeartbeats 8000000 in
theorem law_body {S : Addr} {sv : List Value} {sn : List Int} (G : Gl mg mb base) (GT : TabG mg base) (hS : base.IsList S sv.toArray) (hSi : IntsAre sv sn) (hSl : sv.length ≤ 70)
    (F : FmC base None base L (csL L) h [(Str.ofString "script", .ref S)] [])
    (hfr : A.frames = some [lawEnv L f cd]) (hroom : A.depth + 5 < recursionLimit) (hu : A.units + 100 < cLine) (hh : A.handled = none) {Q : Flow → Shared → Prop}
    (hq : ∀ h' tk', base.StaysIn h' → Q (.ret (.bool true)) (st s h' tk')) :
    wpAny (model prog w) A (execs dLaw.body (lawEnv L f cd)) Q E (st s h tk) := by
  rw [law_is]
  refine wpAny_execs_cons (law_s0 G hS hSi hSl F hh fun h₁ tk₁ Ml vs ms F₁ hM hint hm0 hm1 nM => ?_)
  refine wpAny_execs_cons (law_s1 G GT ⟨F₁, hM⟩ hint hm1 nM hroom hh fun h₂ tk₂ Rl Tl ts F₂ hM₂ hR₂ hT₂ hts hit nR nT nI => ?_)
  refine law_s23 G F₂ hM₂ hint hR₂ hT₂ hts hit nM nR nT nI hm0 hm1 hroom hu hh fun h₃ tk₃ H xs key F₃ W₃ => ?_
  refine wpAny_execs_cons (law_loop G GT hm0 hm1 hS hSi hSl F₃ W₃ hroom hu hh fun h₄ tk₄ Ml' Rl' Tl' ms' ts' xs' key' F₄ W₄ => ?_)
  refine wpAny_execs_cons (law_s5 G hm0 hm1 F₄ W₄ hroom hu hh fun h₅ tk₅ F₅ hp₅ => ?_)
  refine wpAny_execs_cons (law_s6 G F₅ hp₅ hfr hroom hh fun h₆ tk₆ k => ?_)
  exact hq h₆ _ k

/-- a call of the law -/
theorem law_call {R : Result → Shared → Prop} {S : Addr} {sv : List Value} {sn : List Int} {o : Obj} {pm doc : Value} (G : Gl mg mb h) (GT : TabG mg h) (hS : h.IsList S sv.toArray) (hSi : IntsAre sv sn) (hSl : sv.length ≤ 70)
    (ho : h.get? f = some o) (hdata : o.data = .func (docDef dLaw.name dLaw.params dLaw.body dLaw.scope pm cd doc)) (hcd : h.CodeRec cd dLaw.name)
    (hfr : A.frames = some []) (hroom : A.depth + 6 < recursionLimit) (hu : A.units + 110 < cLine) (hh : A.handled = none)
    (hq : ∀ h' tk', h.StaysIn h' → R (.ok (.ret (.bool true))) (st s h' tk')) :
    codeAny (model prog w) A (.call (.ref f) ⟨[.ref S], []⟩) R (st s h tk) := by
  refine callC (d := dLaw) (X := None) (binds := [(Str.ofString "script", .ref S)]) (vars := [(Str.ofString "script", .ref S)]) (cv := []) G (fun _ _ e => e) (fun _ q => q.elim) (fun _ q => q.elim) (by omega) ho hdata hcd rfl rfl (fun _ => ⟨rfl, trivial⟩) (fun _ => trivial) fun L h₁ tk₁ F k => ?_
  refine law_body (E := fun _ _ => False) G GT hS hSi hSl F (Around.frames_deeper hfr) (by show A.depth + 1 + 5 < _; omega) (by rw [Around.deeper_units]; omega) hh fun h₂ tk₂ k₂ => hq h₂ tk₂ k₂
end
end Mine
end

section
open PySem PySem.W PyProof.Rows
namespace Mine
set_option maxHeartbeats 8000000 in
open_top hd for PySem.Challenge.rw_op0058_01
end Mine
end

section
open PySem PySem.W PyProof.Rows
namespace Mine
open PySem.Calls SeqAt

/-! ## the table as the top leaves it -/
def pairW (x : Int × Nat) : WData := .tuple [.int x.1, .str (tx [x.2])]
def rowW (l : List (Int × Nat)) : WData := .tuple (l.map pairW)
def tabW : WData := .tuple (tabL.map rowW)

theorem reads_all {α : Type} {R : WRecords} {cl : Str → Option Addr} {h : Heap} {f : α → WData} {P : Addr → α → Prop} (d : α)
    (hf : ∀ x v as, ReadsW R cl h v (f x) as → ∃ a, v = .ref a ∧ P a x) :
    ∀ (l : List α) (vs : List Value) (as : List Addr), ReadsAllW R cl h vs (l.map f) as → ∃ ps : List Addr, vs = ps.map Value.ref ∧ ps.length = l.length ∧ ∀ j, j < l.length → P (ps.getD j 0) (l.getD j d)
  | [], vs, as, r => by
    cases r
    exact ⟨[], rfl, rfl, fun j hj => by simp at hj⟩
  | x :: l, vs, as, r => by
    cases r with
    | cons r1 r2 =>
      obtain ⟨a, rfl, ha⟩ := hf _ _ _ r1
      obtain ⟨ps, rfl, hl, hp⟩ := reads_all d hf l _ _ r2
      refine ⟨a :: ps, rfl, by simp [hl], fun j hj => ?_⟩
      cases j with
      | zero => simpa using ha
      | succ j => simpa using hp j (by simpa using hj)

theorem tup_reads {α : Type} {R : WRecords} {cl : Str → Option Addr} {h : Heap} {f : α → WData} {P : Addr → α → Prop} (d : α)
    (hf : ∀ x v as, ReadsW R cl h v (f x) as → ∃ a, v = .ref a ∧ P a x) (l : List α) (v : Value) (as : List Addr) (r : ReadsW R cl h v (.tuple (l.map f)) as) :
    ∃ a, v = .ref a ∧ ∃ ps : Array Addr, h.IsTuple a (ps.map Value.ref) ∧ ps.size = l.length ∧ ∀ j, j < l.length → P (fAt ps j) (l.getD j d) := by
  cases r with
  | tuple ho hc hd hr =>
    rename_i a o vs n
    obtain ⟨ps, e, hl, hp⟩ := reads_all d hf l _ _ hr
    refine ⟨a, rfl, ps.toArray, ⟨o, ho, hc, n, ?_⟩, by simpa using hl, fun j hj => ?_⟩
    · rw [hd]
      have : vs = ps.toArray.map Value.ref := by
        apply Array.toList_inj.mp
        rw [e]; simp
      rw [this]
    · have := hp j hj
      simpa [fAt] using this

theorem pair_reads {R : WRecords} {cl : Str → Option Addr} {h : Heap} (x : Int × Nat) (v : Value) (as : List Addr) (r : ReadsW R cl h v (pairW x) as) : ∃ a, v = .ref a ∧ PairAt h a x := by
  unfold pairW at r
  cases r with
  | tuple ho hc hd hr =>
    rename_i a o vs n
    cases hr' : vs.toList with
    | nil => rw [hr'] at hr; cases hr
    | cons v1 r1 =>
      rw [hr'] at hr
      cases hr with
      | cons q1 q2 =>
        cases q2 with
        | cons q3 q4 =>
          cases q4
          cases q1
          cases q3
          rename_i t u
          refine ⟨a, rfl, t, u, o, ho, hc, n, ?_⟩
          rw [hd]
          congr 1
          exact Array.toList_inj.mp hr'

theorem row_reads {R : WRecords} {cl : Str → Option Addr} {h : Heap} (l : List (Int × Nat)) (v : Value) (as : List Addr) (r : ReadsW R cl h v (rowW l) as) : ∃ a, v = .ref a ∧ RowT h a l :=
  tup_reads (P := PairAt h) (0, 0) pair_reads l v as r

theorem tab_reads {R : WRecords} {cl : Str → Option Addr} {h : Heap} (v : Value) (as : List Addr) (r : ReadsW R cl h v tabW as) : ∃ a, v = .ref a ∧ TabT h a :=
  tup_reads (P := RowT h) [] row_reads tabL v as r

theorem recs_are : recsOf hd.view_39 = defs := by kernel_rfl

theorem gl_of {mean : ExcName → Option Value} {mg mb : Str → Option Value} {h : Heap} (T : Top hd.view_39 (looseW hd.view_39 [Str.ofString "_filemode_table"]) mean mg mb h) : Gl mg mb h where
  g := T.g
  b := T.b
  nolimit := T.nolimit
  fn := fun d hd => T.fn d (by rw [recs_are]; exact hd)
  free := fun x hx => ⟨T.free x ((by decide +kernel : ∀ x ∈ blts, x ∉ startupNames) x hx) ((by decide +kernel : ∀ x ∈ blts, x ∉ looseW hd.view_39 [Str.ofString "_filemode_table"]) x hx) ((by decide +kernel : ∀ x ∈ blts, x ∉ (recsOf hd.view_39).map (·.name)) x hx)
      ((by decide +kernel : ∀ x ∈ blts, x ∉ (litsOf hd.view_39).map (·.1)) x hx) ((by decide +kernel : ∀ x ∈ blts, x ∉ (clssOf hd.view_39 (looseW hd.view_39 [Str.ofString "_filemode_table"])).map (·.name)) x hx),
    T.builtins x ((by decide +kernel : ∀ x ∈ blts, x ≠ "__name__") x hx)⟩

theorem tab_of {mg : Str → Option Value} {h : Heap} (V : LooseAre [(Str.ofString "_filemode_table", tabW)] mg h) : TabG mg h := by
  obtain ⟨v, h1, h2⟩ := V.val _ (.head _)
  obtain ⟨T, rfl, hT⟩ := tab_reads v _ h2
  exact ⟨T, h1, hT⟩

set_option maxHeartbeats 8000000 in
theorem law_walk {w : World} {s : Shared} {mean : ExcName → Option Value} {mg mb : Str → Option Value} {cl : Str → Option Addr} {fa S : Addr} {sv : List Value} {sn : List Int}
    (T : Top hd.view_39 (looseW hd.view_39 [Str.ofString "_filemode_table"]) mean mg mb s.heap) (V : LooseAre [(Str.ofString "_filemode_table", tabW)] mg s.heap) (hmg : mg (Str.ofString "law") = some (.ref fa)) (hg : s.gens = #[])
    (hS : s.heap.IsList S sv.toArray) (hSi : IntsAre sv sn) (hSl : ¬ (63 : Int) < (sn.length : Int)) :
    wpAny (model PySem.Challenge.rw_op0058_01.row.prog w) callerA (call (.ref fa) [.ref S])
      (fun v s' => GoodWG PySem.Challenge.rw_op0058_01.row.claim cl mean [ofPy (.list (sn.map .int))] s (.ok (.ret v)) s')
      (fun e s' => GoodWG PySem.Challenge.rw_op0058_01.row.claim cl mean [ofPy (.list (sn.map .int))] s (.error e) s') s := by
  have G := gl_of T
  obtain ⟨a, o, pm, cd, doc, h1, h2, h3, h4⟩ := G.fn dLaw (by simp [defs])
  have ea : a = fa := by
    have : mg (Str.ofString "law") = some (.ref a) := h1
    rw [hmg] at this
    injection this with this
    injection this with this
    exact this.symm
  subst ea
  refine enter_call ?_
  refine law_call (s := s) (h := s.heap) (tk := s.toks) G (tab_of V) hS hSi (by rw [hSi.length]; omega) h2 h3 h4 rfl (by rw [depth_caller]; decide) (by rw [units_caller]; decide) rfl fun h' tk' k => ?_
  refine GoodW.toG ⟨.inl ⟨.bool true, .bool true, [], rfl, fun _ => rfl, .bool true, ?_, fun _ => ⟨List.nodup_nil, fun a ha => by simp at ha⟩⟩, k, rfl, hg⟩
  wrow_post

set_option maxHeartbeats 8000000 in
theorem holds : PySem.Challenge.rw_op0058_01.Holds := by
  refine hd ?_
  intro w s₀ s₁ mg mb G Y fa o pm cd doc dV kV ho hd hcd hD hmg hg args vals as hpre hlay hrd hwl hlo
  have V := (Ground.X G).2
  have T := G.T
  clear ho hd hcd hD Y G
  wrow_args hpre hlay hrd hwl hlo
  exact law_walk T V hmg hg (by assumption) (by assumption) (by assumption)
end Mine
end

theorem PySem.Challenge.cw_op0058_01_holds : PySem.Challenge.rw_op0058_01.Holds :=
  Mine.holds
