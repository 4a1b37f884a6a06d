import PyProof.Rows.All
import Wide.All
import OpenK.AllK
import Wide.FinOn
import Lean
import PySem.Challenge.RW_pk0033_01
set_option Elab.async false
set_option linter.all false
namespace Mine
open PySem PySem.W PySem.W.X PySem.W.ZRun PyProof.Rows
theorem two {P L M : Prop} (main : P) (_ : L) (_ : M) : P := main
def Rest (f : Params → KT) : Prop := ∀ (w : World) (s₁ : Shared) (ns : List Int) (vs : List Value) (c : ClaimW) (cl : Str → Option Addr) (mean : ExcName → Option Value) (args : List WData),
  KT.Holds s₁.heap 1 0 (f w.params) → s₁.heap.get? 182 = some { cls := .type "list", data := .seq vs.toArray 0 } → IntsAre vs ns → ns.length ≤ 63 → s₁.gens = #[] → (∀ cls, c.raises args cls = false) → c.post args (.bool true) args = true →
  wpAny (model PySem.Challenge.pw_pk0033_01 w) callerA (call (.ref 181) [.ref 182]) (fun v s' => GoodWG c cl mean args s₁ (.ok (.ret v)) s') (fun e s' => GoodWG c cl mean args s₁ (.error e) s') s₁
set_option maxRecDepth 100000 in
set_option maxHeartbeats 0 in
noncomputable def pre : { f : Params → KT // Rest f → PySem.Challenge.rw_pk0033_01.Holds } := by
  refine' ⟨?fn, fun H => ?main0⟩
  rotate_left
  w_on; o_law
  refine' two ?main ?hl ?hc
  rotate_left
  rotate_left
  focus z_head
  case hl =>
    intro w
    delta openEnds topFrom
    rewrite [Fast.te14082659384304107361, Fast.te14364793385576792824, Fast.te6184363845902158635]
    kernel_rfl
  case fn => exact Mine.pre.ktop_393
  case hw => w_witness2
  case hc =>
    k_fill
    intro w s₀ s₁ mg mb G y fa o pm cd doc dV kV ho hd hcd hD hmg hg args vals as L hpre hlay hrd hwl hlo
    z_open y L KX ZH ZN ZT
    refine Ground.open G ?_
    intro T B D TE TW
    wrow_args hpre hlay hrd hwl hlo
    obtain ⟨hat, hsz⟩ := script_at L
    have htk := script_toks L ZT
    rw [ZN] at hat hsz
    subst hat
    x_fa T KX hmg
    rename Heap.IsList _ _ _ => hl
    rename IntsAre _ _ => hI
    rename ¬ _ => hn
    have hol := script_obj L hl
    refine H _ _ _ _ _ _ _ _ ZH hol hI (by omega) hg (fun _ => rfl) ?_
    first | rfl | wrow_post
end Mine
namespace Mine
open PySem PySem.W PySem.W.X PyProof.Rows
noncomputable def DEN (c : Code) : Sem Fin := PySem.W.ZFast.zw11892475500146522536 PySem.W.ZFast.tableZ c
theorem DEN_eq (c : Code) : denote table c = DEN c := by
  rw [PySem.W.ZFast.tableZ_eq, PySem.W.ZFast.ze11892475500146522536]; rfl
abbrev Frs := List (Option Code × (Result → Sem Fin))
abbrev DT := List (Addr × Obj)
structure Cf where
  ok : Bool
  cur : Option Code
  t : Sem Fin
  fr : Frs
  T : DT
  m : Nat
  i : Nat
  ob : List (Addr × Addr)
def slook (kt : KT) (a : Addr) : Option Obj := match Nat.blt a 182 with
  | true => match Nat.beq a 63 with
    | true => none
    | false => match Nat.beq a 70 with
      | true => none
      | false => match Nat.beq a 179 with
        | true => none
        | false => match Nat.beq a 181 with
          | true => none
          | false => kt.get a
  | false => none
abbrev Run := Nat → Option Code → Sem Fin → Frs → DT → Nat → Nat → List (Addr × Addr) → Cf
def bad : Cf := ⟨false, none, .unsupported "", [], [], 0, 0, []⟩
noncomputable def stepL (ih : Sem Fin → Cf) (k : Obj → Sem Fin) : Option Obj → Cf
  | some o => ih (k o)
  | none => bad
noncomputable def stepP (ih : Option Code → Sem Fin → Frs → Cf) (r : Result) (c : Option Code) (fr : Frs) : Cf := match fr with
  | [] => bad
  | x :: fr => match c with
    | none => bad
    | some _ => ih x.1 (x.2 r) fr
noncomputable def stepA (ih : Option Code → Sem Fin → Cf) (c' : Code) (c : Option Code) : Cf := match c with
  | none => bad
  | some _ => match c'.quiet with
    | true => ih (some c') (DEN c')
    | false => bad
noncomputable def stepF (ih : Option Code → Sem Fin → Frs → Cf) (c : Option Code) (fr : Frs) : Fin → Cf
  | .done f => stepP ih (.ok f) c fr
  | .again c' => stepA (fun c t => ih c t fr) c' c
noncomputable def stepB (cf : Cf) : Bool → Cf
  | true => bad
  | false => cf
noncomputable def stepH (cf : Cf) : Option Value → Cf
  | none => cf
  | some _ => bad
noncomputable def step0 (st : Setting) (kt : KT) (N t₀ : Nat) (ih : Run) (z : Nat) (c : Option Code) (t : Sem Fin) (fr : Frs) (T : DT) (m i : Nat) (ob : List (Addr × Addr)) : Cf := match t with
  | .pure fin => stepF (fun c t fr => ih z c t fr T m i ob) c fr fin
  | .raise e => stepP (fun c t fr => ih z c t fr T m i ob) (.error e) c fr
  | .rule _ k => ih z c (k ()) fr T m i ob
  | .at _ k => ih z c (k ()) fr T m i ob
  | .point _ k => ih z c (k ()) fr T m i ob
  | .ask k => ih z c (k st) fr T m i ob
  | .load a _ k => stepL (fun t => ih z c t fr T m i ob) k (slook kt a)
  | .alloc o k => stepB (ih z c (k (N + m)) fr ((N + m, o) :: T) (m + 1) i ob) o.isFreed
  | .fresh k => ih z c (k (t₀ + i)) fr T m (i + 1) ob
  | .handled own k => stepB (ih z c (k none) fr T m i ob) own
  | .call c' hd _ _ k => stepH (ih z (some c') (DEN c') ((c, k) :: fr) T m i ob) hd
  | _ => bad
noncomputable def stepT (ih : Addr × Obj → Cf) : Option (Addr × Obj) → Cf
  | some x => ih x
  | none => bad
noncomputable def step1 (ih : Run) (z j : Nat) (c : Option Code) (t : Sem Fin) (fr : Frs) (T : DT) (m i : Nat) (ob : List (Addr × Addr)) : Cf := match t with
  | .load a _ k => stepT (fun x => ih z c (k x.2) fr T m i ((a, x.1) :: ob)) T[j]?
  | .loadIfAlive a k => stepT (fun x => ih z c (k (some x.2)) fr T m i ((a, x.1) :: ob)) T[j]?
  | .update a _ f k => stepT (fun x => stepB (ih z c (k ()) fr (T.set j (x.1, f x.2)) m i ((a, x.1) :: ob)) (f x.2).isFreed) T[j]?
  | _ => bad
noncomputable def stepC (st : Setting) (kt : KT) (N t₀ : Nat) (ih : Run) : Run := fun z c t fr T m i ob =>
  match z % 256 with
  | 0 => step0 st kt N t₀ ih (z / 256) c t fr T m i ob
  | j + 1 => step1 ih (z / 256) j c t fr T m i ob
noncomputable def run (st : Setting) (kt : KT) (N t₀ : Nat) (n : Nat) : Run :=
  Nat.rec (motive := fun _ => Run) (fun _ c t fr T m i ob => ⟨true, c, t, fr, T, m, i, ob⟩) (fun _ ih => stepC st kt N t₀ ih) n
section
variable (prog : Program) (w : World) (A : Around) (Q : Fin → Shared → Prop) (E : Value → Shared → Prop) (R : Result → Shared → Prop)
def ar : Frs → Around
  | [] => A
  | (none, _) :: _ => A
  | (some c, _) :: fr => (ar fr).under c
def pst : Frs → Result → Shared → Prop
  | [] => R
  | (none, k) :: _ => fun r s => wpAny (model prog w) A (k r) Q E s
  | (some c, k) :: fr => fun r s => wpOwn (model prog w) (ar A fr) c (k r) (postC prog w (ar A fr) (pst fr)) (postE (pst fr)) s
def mean (c : Option Code) (t : Sem Fin) (fr : Frs) (s : Shared) : Prop := match c with
  | none => wpAny (model prog w) A t Q E s
  | some c => wpOwn (model prog w) (ar A fr) c t (postC prog w (ar A fr) (pst prog w A Q E R fr)) (postE (pst prog w A Q E R fr)) s
end
def Kp (ks : List Addr) (h h' : Heap) : Prop := (∀ b o, h.get? b = some o → ∃ o', h'.get? b = some o') ∧ ∀ b o, h.get? b = some o → b ∉ ks → h'.get? b = some o
theorem Kp.refl (ks : List Addr) (h : Heap) : Kp ks h h := ⟨fun _ o e => ⟨o, e⟩, fun _ _ e _ => e⟩
theorem Kp.trans {ks ks' : List Addr} {h h' h'' : Heap} (a : Kp ks h h') (b : Kp ks' h' h'') (hs : ∀ x o, h.get? x = some o → x ∈ ks' → x ∈ ks) : Kp ks h h'' :=
  ⟨fun x o e => (a.1 x o e).elim fun o' e' => b.1 x o' e', fun x o e n => b.2 x o (a.2 x o e n) fun q => n (hs x o e q)⟩
theorem get_size (h : Heap) : h.get? h.objs.size = none := by
  cases q : h.get? h.objs.size with
  | none => rfl
  | some o => exact absurd (Heap.lt_size q) (Nat.lt_irrefl _)
theorem Kp.fresh {ks : List Addr} {h h' : Heap} (k : Kp ks h h') {a : Addr} (e : h'.get? a = none) : h.get? a = none := by
  cases q : h.get? a with
  | none => rfl
  | some o =>
    obtain ⟨o', q'⟩ := k.1 a o q
    rw [e] at q'; cases q'
structure Rep (kt : KT) (h₀ : Heap) (ks : List Addr) (h : Heap) (T : DT) (Z : Nat) : Prop where
  size : h.objs.size = Z
  own : ∀ p ∈ T, h.get? p.1 = some p.2
  nd : (T.map (·.1)).Nodup
  off : ∀ p ∈ T, slook kt p.1 = none
  st : ∀ a o, slook kt a = some o → h.get? a = some o
  keep : Kp ks h₀ h
  new : ∀ p ∈ T, p.1 ∈ ks ∨ h₀.get? p.1 = none
theorem getElem?_set_mem {T : DT} {j : Nat} {x y : Addr × Obj} (p : Addr × Obj) (hj : T[j]? = some x) (hk : y.1 = x.1) (nd : (T.map (·.1)).Nodup) (hp : p ∈ T.set j y) : p = y ∨ (p ∈ T ∧ p.1 ≠ x.1) := by
  rcases List.mem_iff_getElem.mp hp with ⟨k, hk1, hk2⟩
  rw [List.length_set] at hk1
  obtain ⟨hl, he⟩ := List.getElem?_eq_some_iff.mp hj
  by_cases hkj : k = j
  · subst hkj
    left
    rw [← hk2, List.getElem_set_self]
  · right
    rw [List.getElem_set_ne (Ne.symm hkj)] at hk2
    refine ⟨hk2 ▸ List.getElem_mem _, fun q => hkj ?_⟩
    have h1 : (T.map (·.1))[k]'(by simpa using hk1) = (T.map (·.1))[j]'(by simpa using hl) := by
      simp only [List.getElem_map]
      rw [hk2, he, q]
    exact (List.getElem_inj nd).mp h1
theorem map_set_same {T : DT} {j : Nat} {x y : Addr × Obj} (hj : T[j]? = some x) (hk : y.1 = x.1) : (T.set j y).map (·.1) = T.map (·.1) := by
  rw [List.map_set]
  have : (T.map (·.1))[j]? = some y.1 := by rw [List.getElem?_map, hj, hk]; rfl
  exact set_same this
section
variable {kt : KT} {h₀ h : Heap} {ks : List Addr} {T : DT} {Z : Nat}
theorem Rep.at (D : Rep kt h₀ ks h T Z) {j : Nat} {x : Addr × Obj} (hj : T[j]? = some x) : h.get? x.1 = some x.2 := D.own x (List.mem_of_getElem? hj)
theorem off_fresh {kt : KT} {h : Heap} {a : Addr} (st : ∀ a o, slook kt a = some o → h.get? a = some o) (e : h.get? a = none) : slook kt a = none := by
  cases q : slook kt a with
  | none => rfl
  | some o => have := st a o q; rw [e] at this; cases this
theorem Rep.alloc (D : Rep kt h₀ ks h T Z) {o : Obj} (hf : o.isFreed = false) : Rep kt h₀ ks (h.push o) ((Z, o) :: T) (Z + 1) := by
  have hz := D.size
  have hn : h.get? Z = none := by rw [← hz]; exact get_size h
  refine ⟨by rw [Heap.size_push, hz], fun p hp => ?_, ?_, fun p hp => ?_, fun a o' e => Heap.get?_push_of_some _ (D.st a o' e), ⟨fun b o' e => (D.keep.1 b o' e).elim fun o'' e' => ⟨o'', Heap.get?_push_of_some _ e'⟩, fun b o' e n => Heap.get?_push_of_some _ (D.keep.2 b o' e n)⟩, fun p hp => ?_⟩
  · rcases List.mem_cons.mp hp with rfl | hp
    · subst hz; exact Heap.get?_push_size _ hf
    · exact Heap.get?_push_of_some _ (D.own p hp)
  · refine List.nodup_cons.mpr ⟨fun hm => ?_, D.nd⟩
    obtain ⟨p, hp, e⟩ := List.mem_map.mp hm
    have q := D.own p hp
    have e' : p.1 = Z := e
    rw [e', hn] at q
    cases q
  · rcases List.mem_cons.mp hp with rfl | hp
    · exact off_fresh D.st hn
    · exact D.off p hp
  · rcases List.mem_cons.mp hp with rfl | hp
    · exact .inr (D.keep.fresh hn)
    · exact D.new p hp
theorem Rep.turn (D : Rep kt h₀ ks h T Z) {j : Nat} {x : Addr × Obj} {o : Obj} {h' : Heap} (hj : T[j]? = some x) (K : Kp [x.1] h h') (ho : h'.get? x.1 = some o) : Rep kt h₀ ks h' (T.set j (x.1, o)) h'.objs.size := by
  have hm := List.mem_of_getElem? hj
  have hx := D.at hj
  refine ⟨rfl, fun p hp => ?_, by rw [map_set_same (y := (x.1, o)) hj rfl]; exact D.nd, fun p hp => ?_, fun a o' e => K.2 a o' (D.st a o' e) ?_, ⟨fun b o' e => (D.keep.1 b o' e).elim fun o'' e' => K.1 b o'' e', fun b o' e n => K.2 b o' (D.keep.2 b o' e n) ?_⟩, fun p hp => ?_⟩
  · rcases getElem?_set_mem (y := (x.1, o)) p hj rfl D.nd hp with rfl | ⟨hp, hne⟩
    · exact ho
    · exact K.2 _ _ (D.own p hp) (by simpa using hne)
  · rcases getElem?_set_mem (y := (x.1, o)) p hj rfl D.nd hp with rfl | ⟨hp, _⟩
    · exact D.off x hm
    · exact D.off p hp
  · intro q
    have q : a = x.1 := by simpa using q
    have := D.off x hm
    rw [← q, e] at this; cases this
  · intro q
    have q : b = x.1 := by simpa using q
    rcases D.new x hm with z | z
    · rw [← q] at z; exact n z
    · rw [← q, e] at z; cases z
  · rcases getElem?_set_mem (y := (x.1, o)) p hj rfl D.nd hp with rfl | ⟨hp, _⟩
    · exact D.new x hm
    · exact D.new p hp
theorem Rep.update (D : Rep kt h₀ ks h T Z) {j : Nat} {x : Addr × Obj} {f : Obj → Obj} (hj : T[j]? = some x) (hf : (f x.2).isFreed = false) : Rep kt h₀ ks (h.update x.1 f) (T.set j (x.1, f x.2)) Z := by
  have hs : Heap.SameBut x.1 h (h.update x.1 f) := Heap.SameBut.update ..
  have hx := D.at hj
  have := D.turn (h' := h.update x.1 f) (o := f x.2) hj ⟨fun b o e => if q : b = x.1 then ⟨f x.2, by rw [q]; first | exact Heap.get?_update_self f hx hf | exact Heap.get?_update_self _ hx hf⟩ else ⟨o, (hs.2 b q).trans e⟩, fun b o e n => (hs.2 b (by simpa using n)).trans e⟩ (by first | exact Heap.get?_update_self f hx hf | exact Heap.get?_update_self _ hx hf)
  rw [hs.1, D.size] at this
  exact this
theorem Rep.same (D : Rep kt h₀ ks h T Z) {h' : Heap} (K : Kp [] h h') : Rep kt h₀ ks h' T h'.objs.size :=
  ⟨rfl, fun p hp => K.2 _ _ (D.own p hp) (by simp), D.nd, D.off, fun a o e => K.2 a o (D.st a o e) (by simp), ⟨fun b o e => (D.keep.1 b o e).elim fun o' e' => K.1 b o' e', fun b o e n => K.2 b o (D.keep.2 b o e n) (by simp)⟩, D.new⟩
theorem Rep.more (D : Rep kt h₀ ks h T Z) {a : Addr} {o : Obj} (ho : h.get? a = some o) (hn : ∀ p ∈ T, p.1 ≠ a) (hl : slook kt a = none) (hf : a ∈ ks ∨ h₀.get? a = none) : Rep kt h₀ ks h ((a, o) :: T) Z := by
  refine ⟨D.size, fun p hp => ?_, ?_, fun p hp => ?_, D.st, D.keep, fun p hp => ?_⟩
  · rcases List.mem_cons.mp hp with rfl | hp
    · exact ho
    · exact D.own p hp
  · refine List.nodup_cons.mpr ⟨fun hm => ?_, D.nd⟩
    obtain ⟨p, hp, e⟩ := List.mem_map.mp hm
    exact hn p hp e
  · rcases List.mem_cons.mp hp with rfl | hp
    · exact hl
    · exact D.off p hp
  · rcases List.mem_cons.mp hp with rfl | hp
    · exact hf
    · exact D.new p hp
end
def AllEq (l : List (Addr × Addr)) : Prop := ∀ p ∈ l, p.1 = p.2
theorem allEq_of {l : List (Addr × Addr)} (h : l.map (·.1) = l.map (·.2)) : AllEq l := by
  intro p hp
  obtain ⟨k, hk, e⟩ := List.mem_iff_getElem.mp hp
  have := congrArg (fun l => l[k]?) h
  simp only [List.getElem?_map, List.getElem?_eq_getElem hk, Option.map_some, e] at this
  exact Option.some.inj this
section
variable {prog : Program} {w : World} {A : Around} {Q : Fin → Shared → Prop} {E : Value → Shared → Prop} {R : Result → Shared → Prop} {kt : KT} {N t₀ : Nat}
theorem ar_handled (hA : A.handled = none) : ∀ fr : Frs, (ar A fr).handled = none
  | [] => hA
  | (none, _) :: _ => hA
  | (some _, _) :: fr => ar_handled hA fr
theorem pst_cons (x : Option Code × (Result → Sem Fin)) (fr : Frs) (r : Result) (s : Shared) (h : mean prog w A Q E R x.1 (x.2 r) fr s) : pst prog w A Q E R (x :: fr) r s := by
  obtain ⟨c, k⟩ := x
  cases c <;> exact h
def Says (prog : Program) (w : World) (A : Around) (Q : Fin → Shared → Prop) (E : Value → Shared → Prop) (R : Result → Shared → Prop) (kt : KT) (N t₀ : Nat) (g : Array GenState) (d : Drawn) (os : OsState)
    (h₀ : Heap) (ks : List Addr) (cf : Cf) : Prop :=
  ∀ h', Rep kt h₀ ks h' cf.T (N + cf.m) → mean prog w A Q E R cf.cur cf.t cf.fr ⟨h', g, d, t₀ + cf.i, os⟩
abbrev Snd (prog : Program) (w : World) (A : Around) (Q : Fin → Shared → Prop) (E : Value → Shared → Prop) (R : Result → Shared → Prop) (kt : KT) (N t₀ : Nat) (ih : Run) : Prop :=
  ∀ (z : Nat) (c : Option Code) (t : Sem Fin) (fr : Frs) (T : DT) (m i : Nat) (ob : List (Addr × Addr)) (h₀ : Heap) (ks : List Addr) (h : Heap) (g : Array GenState) (d : Drawn) (os : OsState),
    (ih z c t fr T m i ob).ok = true → AllEq (ih z c t fr T m i ob).ob → Rep kt h₀ ks h T (N + m) → Says prog w A Q E R kt N t₀ g d os h₀ ks (ih z c t fr T m i ob) →
    AllEq ob ∧ mean prog w A Q E R c t fr ⟨h, g, d, t₀ + i, os⟩
def Goal (prog : Program) (w : World) (A : Around) (Q : Fin → Shared → Prop) (E : Value → Shared → Prop) (R : Result → Shared → Prop) (kt : KT) (N t₀ : Nat) (g : Array GenState) (d : Drawn) (os : OsState)
    (h₀ : Heap) (ks : List Addr) (h : Heap) (c : Option Code) (t : Sem Fin) (fr : Frs) (i : Nat) (ob : List (Addr × Addr)) (cf : Cf) : Prop :=
  cf.ok = true → AllEq cf.ob → Says prog w A Q E R kt N t₀ g d os h₀ ks cf → AllEq ob ∧ mean prog w A Q E R c t fr ⟨h, g, d, t₀ + i, os⟩
section
variable {ih : Run} {zz : Nat} {c : Option Code} {fr : Frs} {T : DT} {m i : Nat} {ob : List (Addr × Addr)} {h₀ h : Heap} {ks : List Addr} {g : Array GenState} {d : Drawn} {os : OsState}
theorem g_bad {t : Sem Fin} : Goal prog w A Q E R kt N t₀ g d os h₀ ks h c t fr i ob bad := fun h => nomatch h
theorem g_step (IH : Snd prog w A Q E R kt N t₀ ih) {c' : Option Code} {t' : Sem Fin} {fr' : Frs} (D : Rep kt h₀ ks h T (N + m)) {t : Sem Fin} (k : mean prog w A Q E R c' t' fr' ⟨h, g, d, t₀ + i, os⟩ → mean prog w A Q E R c t fr ⟨h, g, d, t₀ + i, os⟩) :
    Goal prog w A Q E R kt N t₀ g d os h₀ ks h c t fr i ob (ih zz c' t' fr' T m i ob) := fun a b s =>
  have z := IH _ _ _ _ _ _ _ _ h₀ ks h g d os a b D s; ⟨z.1, k z.2⟩
theorem g_pop (IH : Snd prog w A Q E R kt N t₀ ih) (D : Rep kt h₀ ks h T (N + m)) {t : Sem Fin} (r : Result)
    (k : ∀ x fr' c', fr = x :: fr' → c = some c' → mean prog w A Q E R x.1 (x.2 r) fr' ⟨h, g, d, t₀ + i, os⟩ → mean prog w A Q E R c t fr ⟨h, g, d, t₀ + i, os⟩) :
    Goal prog w A Q E R kt N t₀ g d os h₀ ks h c t fr i ob (stepP (fun c t fr => ih zz c t fr T m i ob) r c fr) := by
  cases fr with
  | nil => exact g_bad
  | cons x fr =>
    cases c with
    | none => exact g_bad
    | some c => exact g_step IH D (k x fr c rfl rfl)
theorem g_pure (IH : Snd prog w A Q E R kt N t₀ ih) (D : Rep kt h₀ ks h T (N + m)) (fin : Fin) :
    Goal prog w A Q E R kt N t₀ g d os h₀ ks h c (.pure fin) fr i ob (stepF (fun c t fr => ih zz c t fr T m i ob) c fr fin) := by
  cases fin with
  | done f =>
    refine g_pop IH D _ fun x fr' c' e1 e2 z => ?_
    subst e1 e2
    exact y_pure _ _ _ _ _ _ _ _ _ (y_done _ _ _ _ _ _ (pst_cons x fr' _ _ z))
  | again c' =>
    cases c with
    | none => exact g_bad
    | some c =>
      show Goal _ _ _ _ _ _ _ _ _ _ _ _ _ _ _ _ _ _ _ _ (match c'.quiet with
        | true => ih zz (some c') (DEN c') fr T m i ob
        | false => bad)
      cases q : c'.quiet with
      | false => exact g_bad
      | true =>
        refine g_step IH D fun z => ?_
        refine y_pure _ _ _ _ _ _ _ _ _ (y_again _ _ _ _ _ _ q (y_code _ _ _ _ _ _ ?_))
        rw [DEN_eq]
        exact z
theorem g_raise (IH : Snd prog w A Q E R kt N t₀ ih) (D : Rep kt h₀ ks h T (N + m)) (e : Value) :
    Goal prog w A Q E R kt N t₀ g d os h₀ ks h c (.raise e) fr i ob (stepP (fun c t fr => ih zz c t fr T m i ob) (.error e) c fr) := by
  refine g_pop IH D _ fun x fr' c' e1 e2 z => ?_
  subst e1 e2
  exact y_raise _ _ _ _ _ _ _ _ _ (y_err _ _ _ (pst_cons x fr' _ _ z))
theorem g_load (IH : Snd prog w A Q E R kt N t₀ ih) (D : Rep kt h₀ ks h T (N + m)) (a : Addr) (q : Option Value) (k : Obj → Sem Fin) :
    Goal prog w A Q E R kt N t₀ g d os h₀ ks h c (.load a q k) fr i ob (stepL (fun t => ih zz c t fr T m i ob) k (slook kt a)) := by
  cases e : slook kt a with
  | none => exact g_bad
  | some o =>
    refine g_step IH D fun z => ?_
    have ho := D.st a o e
    cases c with
    | none => exact x_load ho z
    | some c => exact y_load _ _ _ _ _ _ _ _ _ _ _ _ _ _ _ _ ho z
theorem g_alloc (IH : Snd prog w A Q E R kt N t₀ ih) (D : Rep kt h₀ ks h T (N + m)) (o : Obj) (k : Addr → Sem Fin) :
    Goal prog w A Q E R kt N t₀ g d os h₀ ks h c (.alloc o k) fr i ob (stepB (ih zz c (k (N + m)) fr ((N + m, o) :: T) (m + 1) i ob) o.isFreed) := by
  cases e : o.isFreed with
  | true => exact g_bad
  | false =>
    intro hok hob S
    have z := IH _ _ _ _ _ _ _ _ h₀ ks (h.push o) g d os hok hob (D.alloc e) S
    refine ⟨z.1, ?_⟩
    have hz := z.2
    rw [← D.size] at hz
    cases c with
    | none => exact wpAny_bind (m := alloc o) (f := k) (wpAny_alloc hz)
    | some c => exact wpOwn_bind (m := alloc o) (f := k) (wpOwn_of_wpAny (wpAny_alloc hz))
theorem g_fresh (IH : Snd prog w A Q E R kt N t₀ ih) (D : Rep kt h₀ ks h T (N + m)) (k : Tok → Sem Fin) :
    Goal prog w A Q E R kt N t₀ g d os h₀ ks h c (.fresh k) fr i ob (ih zz c (k (t₀ + i)) fr T m (i + 1) ob) := by
  intro hok hob S
  have z := IH _ _ _ _ _ _ _ _ h₀ ks h g d os hok hob D S
  refine ⟨z.1, ?_⟩
  cases c with
  | none => exact x_fresh z.2
  | some c => exact y_fresh _ _ _ _ _ _ _ _ _ _ _ _ _ z.2
theorem g_handled (hA : A.handled = none) (IH : Snd prog w A Q E R kt N t₀ ih) (D : Rep kt h₀ ks h T (N + m)) (own : Bool) (k : Option Value → Sem Fin) :
    Goal prog w A Q E R kt N t₀ g d os h₀ ks h c (.handled own k) fr i ob (stepB (ih zz c (k none) fr T m i ob) own) := by
  cases own with
  | true => exact g_bad
  | false =>
    refine g_step IH D fun z => ?_
    cases c with
    | none => exact x_handled (by rw [hA]; exact z)
    | some c => exact y_handled _ _ _ _ _ _ _ _ _ (by rw [ar_handled hA]; exact z)
theorem g_call (IH : Snd prog w A Q E R kt N t₀ ih) (D : Rep kt h₀ ks h T (N + m)) (c' : Code) (hd : Option Value) (gd : Bool) (l : List Value) (k : Result → Sem Fin) :
    Goal prog w A Q E R kt N t₀ g d os h₀ ks h c (.call c' hd gd l k) fr i ob (stepH (ih zz (some c') (DEN c') ((c, k) :: fr) T m i ob) hd) := by
  cases hd with
  | some v => exact g_bad
  | none =>
    refine g_step IH D fun z => ?_
    cases c with
    | none =>
      refine x_call ?_ (by intro x; cases x)
      refine y_code _ _ _ _ _ _ ?_
      rw [DEN_eq]
      exact z
    | some c =>
      refine y_call _ _ _ _ _ _ _ _ _ _ _ _ _ (by intro x; cases x) ?_
      refine y_code _ _ _ _ _ _ ?_
      rw [DEN_eq]
      exact z
theorem g_two {j : Nat} {a : Addr} {x : Addr × Obj} {P : Prop} (D : Rep kt h₀ ks h T (N + m)) (hj : T[j]? = some x) (q : AllEq ((a, x.1) :: ob) ∧ P) : AllEq ob ∧ P ∧ h.get? a = some x.2 :=
  ⟨fun p hp => q.1 p (.tail _ hp), q.2, by have e : a = x.1 := q.1 (a, x.1) (.head _); rw [e]; exact D.at hj⟩
theorem g_load1 (IH : Snd prog w A Q E R kt N t₀ ih) (D : Rep kt h₀ ks h T (N + m)) (j : Nat) (a : Addr) (q : Option Value) (k : Obj → Sem Fin) :
    Goal prog w A Q E R kt N t₀ g d os h₀ ks h c (.load a q k) fr i ob (stepT (fun x => ih zz c (k x.2) fr T m i ((a, x.1) :: ob)) T[j]?) := by
  cases e : T[j]? with
  | none => exact g_bad
  | some x =>
    intro hok hob S
    obtain ⟨z1, z, ho⟩ := g_two D e (IH _ _ _ _ _ _ _ _ h₀ ks h g d os hok hob D S)
    refine ⟨z1, ?_⟩
    cases c with
    | none => exact x_load ho z
    | some c => exact y_load _ _ _ _ _ _ _ _ _ _ _ _ _ _ _ _ ho z
theorem g_alive (IH : Snd prog w A Q E R kt N t₀ ih) (D : Rep kt h₀ ks h T (N + m)) (j : Nat) (a : Addr) (k : Option Obj → Sem Fin) :
    Goal prog w A Q E R kt N t₀ g d os h₀ ks h c (.loadIfAlive a k) fr i ob (stepT (fun x => ih zz c (k (some x.2)) fr T m i ((a, x.1) :: ob)) T[j]?) := by
  cases e : T[j]? with
  | none => exact g_bad
  | some x =>
    intro hok hob S
    obtain ⟨z1, z, ho⟩ := g_two D e (IH _ _ _ _ _ _ _ _ h₀ ks h g d os hok hob D S)
    refine ⟨z1, ?_⟩
    cases c with
    | none =>
      intro Γ p hΓ
      show Sem.wp _ _ (k (h.get? a)) _ _ _ _
      rw [ho]; exact z Γ p hΓ
    | some c => exact y_alive _ _ _ _ _ _ _ _ _ _ _ _ _ _ _ ho z
theorem g_update (IH : Snd prog w A Q E R kt N t₀ ih) (D : Rep kt h₀ ks h T (N + m)) (j : Nat) (a : Addr) (q : Option Value) (f : Obj → Obj) (k : Unit → Sem Fin) :
    Goal prog w A Q E R kt N t₀ g d os h₀ ks h c (.update a q f k) fr i ob (stepT (fun x => stepB (ih zz c (k ()) fr (T.set j (x.1, f x.2)) m i ((a, x.1) :: ob)) (f x.2).isFreed) T[j]?) := by
  cases e : T[j]? with
  | none => exact g_bad
  | some x =>
    show Goal _ _ _ _ _ _ _ _ _ _ _ _ _ _ _ _ _ _ _ _ (stepB (ih zz c (k ()) fr (T.set j (x.1, f x.2)) m i ((a, x.1) :: ob)) (f x.2).isFreed)
    cases ef : (f x.2).isFreed with
    | true => exact g_bad
    | false =>
      intro hok hob S
      have z := IH _ _ _ _ _ _ _ _ h₀ ks (h.update x.1 f) g d os hok hob (D.update e ef) S
      have ea : a = x.1 := z.1 (a, x.1) (.head _)
      refine ⟨fun p hp => z.1 p (.tail _ hp), ?_⟩
      have z2 := z.2
      rw [← ea] at z2
      have ho : h.get? a = some x.2 := by rw [ea]; exact D.at e
      cases c with
      | none => exact wpAny_bind (m := updatePart a q f) (f := k) (wpAny_updatePart ho z2)
      | some c => exact wpOwn_bind (m := updatePart a q f) (f := k) (wpOwn_of_wpAny (wpAny_updatePart ho z2))
theorem g_step0 (hA : A.handled = none) (IH : Snd prog w A Q E R kt N t₀ ih) (D : Rep kt h₀ ks h T (N + m)) (t : Sem Fin) :
    Goal prog w A Q E R kt N t₀ g d os h₀ ks h c t fr i ob (step0 ⟨prog, w.params⟩ kt N t₀ ih zz c t fr T m i ob) := by
  cases t with
  | pure fin => exact g_pure IH D fin
  | raise e => exact g_raise IH D e
  | rule tag k =>
    refine g_step (zz := zz) IH D fun z => ?_
    cases c with
    | none => exact x_rule z
    | some c => exact y_skim _ _ _ _ _ _ _ _ _ 1 z
  | «at» q k =>
    refine g_step (zz := zz) IH D fun z => ?_
    cases c with
    | none => exact x_at z
    | some c => exact y_skim _ _ _ _ _ _ _ _ _ 1 z
  | point l k =>
    refine g_step (zz := zz) IH D fun z => ?_
    cases c with
    | none => exact x_point z
    | some c => exact y_skim _ _ _ _ _ _ _ _ _ 1 z
  | ask k =>
    refine g_step (zz := zz) IH D fun z => ?_
    cases c with
    | none => exact x_ask z
    | some c => exact y_skim _ _ _ _ _ _ _ _ _ 1 z
  | load a q k => exact g_load IH D a q k
  | alloc o k => exact g_alloc IH D o k
  | fresh k => exact g_fresh IH D k
  | handled own k => exact g_handled hA IH D own k
  | call c' hd gd l k => exact g_call IH D c' hd gd l k
  | _ => exact g_bad
theorem g_step1 (IH : Snd prog w A Q E R kt N t₀ ih) (D : Rep kt h₀ ks h T (N + m)) (j : Nat) (t : Sem Fin) :
    Goal prog w A Q E R kt N t₀ g d os h₀ ks h c t fr i ob (step1 ih zz j c t fr T m i ob) := by
  cases t with
  | load a q k => exact g_load1 IH D j a q k
  | loadIfAlive a k => exact g_alive IH D j a k
  | update a q f k => exact g_update IH D j a q f k
  | _ => exact g_bad
end
theorem step_sound (hA : A.handled = none) (ih : Run) (IH : Snd prog w A Q E R kt N t₀ ih) : Snd prog w A Q E R kt N t₀ (stepC ⟨prog, w.params⟩ kt N t₀ ih) := by
  intro z c t fr T m i ob h₀ ks h g d os hok hob D S
  unfold stepC at hok hob S
  generalize z % 256 = y at hok hob S
  cases y with
  | zero => exact g_step0 hA IH D t hok hob S
  | succ j => exact g_step1 IH D j t hok hob S
theorem run_sound (hA : A.handled = none) (n : Nat) : Snd prog w A Q E R kt N t₀ (run ⟨prog, w.params⟩ kt N t₀ n) := by
  induction n with
  | zero =>
    intro z c t fr T m i ob h₀ ks h g d os _ hob D S
    exact ⟨hob, S h D⟩
  | succ n ih => exact step_sound hA _ ih
end
end Mine
namespace Mine
open PySem PySem.W PySem.W.X PyProof.Rows
variable {w : World} {A : Around} {R : Result → Shared → Prop} {h : Heap} {g : Array GenState} {dr : Drawn} {tk : Nat} {os : OsState}
abbrev pw : Program := PySem.Challenge.pw_pk0033_01
noncomputable abbrev KTw (w : World) : KT := Mine.pre.ktop_393 w.params
def adrC {α : Type} (t : Sem α) : Code := match t with | .call c _ _ _ _ => c | _ => .block [] default
def gC {α : Type} (t : Sem α) : Bool := match t with | .call _ _ g _ _ => g | _ => false
def lC {α : Type} (t : Sem α) : List Value := match t with | .call _ _ _ l _ => l | _ => []
def kC {α : Type} (t : Sem α) : Result → Sem α := match t with | .call _ _ _ _ k => k | _ => fun _ => .unsupported ""
def cellsAt : List (Str × NameKind) → Addr → List (Str × Addr) → List (Str × Addr)
  | [], _, cl => cl
  | (n, k) :: r, a, cl => if k == .cell then cellsAt r (a + 1) ((n, a) :: cl) else cellsAt r a cl
def fdOf (o : Option Obj) : FuncData := match o with
  | some o => match o.data with
    | .func fd => fd
    | _ => default
  | none => default
def envAt (self : Addr) (fd : FuncData) (L : Addr) : Env :=
  { scope := fd.scope, locals := L, globals := fd.globals, cells := cellsAt fd.scope.names (L + 1) fd.closure, qual := fd.qualname ++ ".<locals>.", func := some self, code := fd.code, frame := some L, builtins := fd.builtins }
def bodyAt (fd : FuncData) : List Stmt := match fd.body with
  | .stmts b => b
  | .expr _ => []
noncomputable def enterBy (c : Code) : Sem Fin := PySem.W.R.bindR (PySem.W.ZFast.enterX 0) (fun _ => .pure (.again c))
section
variable {prog : Program} {w : World} {A : Around} {Q : Fin → Shared → Prop} {E : Value → Shared → Prop} {R : Result → Shared → Prop} {kt : KT}
structure Mean (prog : Program) (w : World) (A : Around) (Q : Fin → Shared → Prop) (E : Value → Shared → Prop) (R : Result → Shared → Prop) (c : Option Code) (t : Sem Fin) (fr : Frs) (s : Shared) : Prop where
  holds : mean prog w A Q E R c t fr s
def ac (A : Around) (c : Option Code) (fr : Frs) : Around := match c with
  | none => A
  | some c => (ar A fr).under c
noncomputable abbrev run0 (st : Setting) (kt : KT) (N t₀ n z : Nat) (c : Option Code) (t : Sem Fin) (fr : Frs) (T : DT) : Cf := run st kt N t₀ n z c t fr T 0 0 []
abbrev Chk (a : Cf) : Prop := (a.ok, a.ob.map (·.1)) = (true, a.ob.map (·.2))
theorem eng (n z : Nat) {c : Option Code} {t : Sem Fin} {fr : Frs} {T : DT} {h₀ h : Heap} {ks : List Addr} {d : Drawn} {t₀ : Nat} {N : Nat} (hA : A.handled = none) (D : Rep kt h₀ ks h T N)
    (hk : Chk (run0 ⟨prog, w.params⟩ kt N t₀ n z c t fr T))
    (next : let x := run0 ⟨prog, w.params⟩ kt N t₀ n z c t fr T; ∀ h', Rep kt h₀ ks h' x.T (N + x.m) → Mean prog w A Q E R x.cur x.t x.fr ⟨h', g, d, t₀ + x.i, os⟩) :
    Mean prog w A Q E R c t fr ⟨h, g, d, t₀, os⟩ :=
  ⟨(run_sound (prog := prog) (w := w) (A := A) (Q := Q) (E := E) (R := R) (kt := kt) (N := N) (t₀ := t₀) hA n z c t fr T 0 0 [] h₀ ks h g d os (congrArg (·.1) hk) (allEq_of (congrArg (·.2) hk)) D fun h' d' => (next h' d').holds).2⟩
abbrev CallAt (t : Sem Fin) (c' : Code) : Prop := t = .call c' none (gC t) (lC t) (kC t)
abbrev FinAt (cur : Option Code) (t : Sem Fin) (f : Fin) : Prop := (cur, t) = (none, .pure f)
theorem finAt {cur : Option Code} {t : Sem Fin} {f : Fin} (hc : cur = none) (e : t = .pure f) : FinAt cur t f := by rw [FinAt, hc, e]
theorem hook {c : Option Code} {t : Sem Fin} {fr : Frs} {s : Shared} {c' : Code} (e : CallAt t c')
    (h : codeAny (model prog w) (ac A c fr) c' (fun r s' => Mean prog w A Q E R c (kC t r) fr s') s) : Mean prog w A Q E R c t fr s := by
  replace e : t = .call c' none (gC t) (lC t) (kC t) := e
  have h' := codeAny_mono h fun r s' (x : Mean prog w A Q E R c (kC t r) fr s') => x.holds
  refine ⟨?_⟩
  rw [e]
  cases c with
  | none => exact x_call h' (by intro x; cases x)
  | some c => exact y_call _ _ _ _ _ _ _ _ _ _ _ _ _ (by intro x; cases x) h'
theorem noLimit (hs : ∀ a o, slook kt a = some o → h.get? a = some o) (o : Obj) (e : slook kt 2 = some o) (ho : o.data = .dict #[] 0) : h.NoLimit :=
  ⟨_, ⟨o, #[], 0, hs _ _ e, ho, (fun _ hm => by simp at hm), fun _ => rfl⟩, rfl⟩
def unO (o : Option Obj) : Obj := match o with
  | some o => o
  | none => default
theorem noLimitW {h₀ h : Heap} {ks : List Addr} {T : DT} {Z : Nat} (D : Rep (KTw w) h₀ ks h T Z) : h.NoLimit := noLimit D.st (unO (slook (KTw w) 2)) (by kernel_rfl) (by kernel_rfl)
def unC (c : Option Code) : Code := match c with
  | some c => c
  | none => .block [] default
theorem enter0 {cur : Option Code} {t : Sem Fin} {fr : Frs} {s : Shared} {c' : Code} (hc : cur = some (unC cur)) (hf : fr = []) (e : t = enterBy c') (hw : (unC cur).weight = 0) (hl : s.heap.NoLimit) (hd : A.depth < recursionLimit) (hq : c'.quiet = true)
    (h : codeAny (model prog w) A c' R s) : Mean prog w A Q E R cur t fr s := by
  refine ⟨?_⟩
  rw [hc, e, hf]
  unfold enterBy
  rw [← PySem.W.R.bindR_eq, ← PySem.W.ZFast.enterX_eq]
  refine wpOwn_bind (m := enterFrame) (f := fun _ => Sem.pure (Fin.again c')) (wpOwn_of_wpAny (wpAny_enterFrame hl ?_ (y_pure _ _ _ _ _ _ _ _ _ (y_again _ _ _ _ _ _ hq h))))
  show A.depth + (unC cur).weight < recursionLimit
  rw [hw]; exact hd
theorem enter {c : Code} {t : Sem Fin} {fr : Frs} {s : Shared} {c' : Code} (e : t = enterBy c') (hl : s.heap.NoLimit) (hd : ((ar A fr).under c).depth < recursionLimit) (hq : c'.quiet = true)
    (h : codeAny (model prog w) (ar A fr) c' (pst prog w A Q E R fr) s) : Mean prog w A Q E R (some c) t fr s := by
  refine ⟨?_⟩
  rw [e]
  unfold enterBy
  rw [← PySem.W.R.bindR_eq, ← PySem.W.ZFast.enterX_eq]
  exact wpOwn_bind (m := enterFrame) (f := fun _ => Sem.pure (Fin.again c')) (wpOwn_of_wpAny (wpAny_enterFrame hl hd (y_pure _ _ _ _ _ _ _ _ _ (y_again _ _ _ _ _ _ hq h))))
theorem enterN (k : Nat) {cur : Option Code} {t : Sem Fin} {fr : Frs} {s : Shared} {c' : Code} (hc : cur = some (unC cur)) (e : t = enterBy c') (hk : ((ar A fr).under (unC cur)).depth = A.depth + k) (hl : s.heap.NoLimit) (hd : A.depth + k < recursionLimit) (hq : c'.quiet = true)
    (h : Mean prog w A Q E R (some c') (DEN c') fr s) : Mean prog w A Q E R cur t fr s := by
  rw [hc, e]
  refine enter rfl hl (by rw [hk]; exact hd) hq (y_code _ _ _ _ _ _ ?_)
  rw [DEN_eq]; exact h.holds
def adrAt (T : DT) (j : Nat) : Addr := match T[j]? with
  | some x => x.1
  | none => 0
noncomputable abbrev defC (w : World) (f : Nat) (L : Addr) : Code := .func (bodyAt (fdOf (slook (KTw w) f))) (envAt f (fdOf (slook (KTw w) f)) L)
abbrev EnD (w : World) (A : Around) (k f : Nat) (L : Addr) (cur : Option Code) (fr : Frs) (t : Sem Fin) : Prop := (cur, t, ((ar A fr).under (unC cur)).depth) = (some (unC cur), enterBy (defC w f L), A.depth + k)
theorem enterD (k f j : Nat) {cur : Option Code} {t : Sem Fin} {fr : Frs} {h₀ h : Heap} {ks : List Addr} {T : DT} {Z : Nat} {d : Drawn} (D : Rep (KTw w) h₀ ks h T Z) (he : EnD w A k f (adrAt T j) cur fr t) (hd : A.depth + k < recursionLimit)
    (h' : Mean prog w A Q E R (some (defC w f (adrAt T j))) (DEN (defC w f (adrAt T j))) fr ⟨h, g, d, tk, os⟩) :
    Mean prog w A Q E R cur t fr ⟨h, g, d, tk, os⟩ := by
  obtain ⟨hc, he⟩ := Prod.mk.inj he
  obtain ⟨e, hk⟩ := Prod.mk.inj he
  exact enterN k hc e hk (noLimitW D) hd rfl h'
abbrev EnB (w : World) (f : Nat) (L : Addr) (cur : Option Code) (fr : Frs) (t : Sem Fin) : Prop := (cur, fr, t, (unC cur).weight) = (some (unC cur), [], enterBy (defC w f L), 0)
theorem enterB (f j : Nat) {cur : Option Code} {t : Sem Fin} {fr : Frs} {h₀ h : Heap} {ks : List Addr} {T : DT} {Z : Nat} {d : Drawn} (D : Rep (KTw w) h₀ ks h T Z) (he : EnB w f (adrAt T j) cur fr t) (hd : A.depth < recursionLimit)
    (h' : codeAny (model prog w) A (defC w f (adrAt T j)) R ⟨h, g, d, tk, os⟩) :
    Mean prog w A Q E R cur t fr ⟨h, g, d, tk, os⟩ := by
  obtain ⟨hc, he⟩ := Prod.mk.inj he
  obtain ⟨hf, he⟩ := Prod.mk.inj he
  obtain ⟨e, hw⟩ := Prod.mk.inj he
  exact enter0 hc hf e hw (noLimitW D) hd rfl h'
def kS {α : Type} (t : Sem α) : List (Code × Pos) → Sem α := match t with | .stack k => k | _ => fun _ => .unsupported ""
theorem stk {cur : Option Code} {t : Sem Fin} {fr : Frs} {s : Shared} (hc : cur = some (unC cur)) (e : t = .stack (kS t)) (h : ∀ (p : Pos) (below : List (Code × Pos)), Mean prog w A Q E R cur (kS t ((unC cur, p) :: below)) fr s) : Mean prog w A Q E R cur t fr s := by
  refine ⟨?_⟩
  rw [hc, e]
  refine y_stack _ _ _ _ _ _ _ _ _ fun p below _ => ?_
  have := (h p below).holds
  rw [hc] at this
  exact this
theorem start {c : Code} {s : Shared} (h : Mean prog w A Q E R (some c) (DEN c) [] s) : codeAny (model prog w) A c R s := by
  refine y_code _ _ _ _ _ _ ?_
  rw [DEN_eq]; exact h.holds
abbrev FinR (cur : Option Code) (fr : Frs) (t : Sem Fin) (f : Flow) : Prop := (cur, fr, t) = (some (unC cur), [], .pure (.done f))
theorem fin {cur : Option Code} {fr : Frs} {t : Sem Fin} {s : Shared} {f : Flow} (he : FinR cur fr t f) (h : R (.ok f) s) : Mean prog w A Q E R cur t fr s := by
  obtain ⟨hc, he⟩ := Prod.mk.inj he
  obtain ⟨hf, e⟩ := Prod.mk.inj he
  refine ⟨?_⟩
  rw [hc, e, hf]; exact y_pure _ _ _ _ _ _ _ _ _ (y_done _ _ _ _ _ _ h)
theorem finR_ {cur : Option Code} {fr : Frs} {t : Sem Fin} {f : Flow} (hc : cur = some (unC cur)) (hf : fr = []) (e : t = .pure (.done f)) : FinR cur fr t f := by rw [FinR, ← hc, hf, e]
theorem finQ {cur : Option Code} {t : Sem Fin} {s : Shared} {f : Fin} {fr : Frs} (he : FinAt cur t f) (h : Q f s) : Mean prog w A Q E R cur t fr s := by
  obtain ⟨hc, e⟩ := Prod.mk.inj he
  refine ⟨?_⟩
  rw [e, hc]; exact x_pure h
def tokI (t : Sem Fin) : Tok := match t with
  | .pure (.done (.ret (.int _ u))) => u
  | .pure (.done (.ret (.str _ u))) => u
  | _ => 0
theorem finInt (i : Int) {cur : Option Code} {t : Sem Fin} {s : Shared} {fr : Frs} (hc : cur = none) (e : t = .pure (.done (.ret (.int i (tokI t))))) (h : ∀ u, Q (.done (.ret (.int i u))) s) : Mean prog w A Q E R cur t fr s := finQ (finAt hc e) (h _)
theorem finStr (x : Str) {cur : Option Code} {t : Sem Fin} {s : Shared} {fr : Frs} (hc : cur = none) (e : t = .pure (.done (.ret (.str x (tokI t))))) (h : ∀ u, Q (.done (.ret (.str x u))) s) : Mean prog w A Q E R cur t fr s := finQ (finAt hc e) (h _)
theorem finIntR (i : Int) {cur : Option Code} {t : Sem Fin} {s : Shared} {fr : Frs} (hc : cur = some (unC cur)) (hf : fr = []) (e : t = .pure (.done (.ret (.int i (tokI t))))) (h : ∀ u, R (.ok (.ret (.int i u))) s) : Mean prog w A Q E R cur t fr s := fin (finR_ hc hf e) (h _)
theorem finStrR (x : Str) {cur : Option Code} {t : Sem Fin} {s : Shared} {fr : Frs} (hc : cur = some (unC cur)) (hf : fr = []) (e : t = .pure (.done (.ret (.str x (tokI t))))) (h : ∀ u, R (.ok (.ret (.str x u))) s) : Mean prog w A Q E R cur t fr s := fin (finR_ hc hf e) (h _)
noncomputable def EXS (b : List Stmt) (env : Env) : Sem Fin := PySem.W.R.bindR (PySem.W.ZFast.zw12563942051412417395 b env) (fun f => .pure (.done f))
noncomputable def EVL (e : Expr) (env : Env) : Sem Fin := PySem.W.R.bindR (PySem.W.ZFast.zw14044960220447912780 e env) (fun v => .pure (.done (.ret v)))
def onDone (Q : Flow → Shared → Prop) : Fin → Shared → Prop := fun f s => match f with
  | .done f => Q f s
  | .again _ => False
def onRet (Q : Value → Shared → Prop) : Fin → Shared → Prop := fun f s => match f with
  | .done (.ret v) => Q v s
  | _ => False
theorem unbind {α : Type} {M : Model} {t : Sem α} {k : α → Fin} {Q : Fin → Shared → Prop} {E : Value → Shared → Prop} {s : Shared} (h : wpAny M A (t.bind fun a => .pure (k a)) Q E s) : wpAny M A t (fun a => Q (k a)) E s := by
  intro Γ p hΓ
  have := h Γ p hΓ
  have e : (t.bind fun a => Sem.pure (k a)) = t >>= fun a => Sem.pure (k a) := rfl
  rw [e, Sem.wp_bind'] at this
  exact Sem.wp_mono M Γ t (fun _ _ _ x => x) (fun _ _ _ x => x) p s this
theorem top_execs {b : List Stmt} {env : Env} {Q : Flow → Shared → Prop} {s : Shared} (h : let q := onDone Q; Mean prog w A q E R none (EXS b env) [] s) : wpAny (model prog w) A (execs b env) Q E s := by
  have h' : wpAny (model prog w) A (EXS b env) (onDone Q) E s := h.holds
  unfold EXS at h'
  rw [← PySem.W.R.bindR_eq, ← PySem.W.ZFast.ze12563942051412417395] at h'
  exact unbind (k := Fin.done) h'
theorem top_eval {e : Expr} {env : Env} {Q : Value → Shared → Prop} {s : Shared} (h : let q := onRet Q; Mean prog w A q E R none (EVL e env) [] s) : wpAny (model prog w) A (eval e env) Q E s := by
  have h' : wpAny (model prog w) A (EVL e env) (onRet Q) E s := h.holds
  unfold EVL at h'
  rw [← PySem.W.R.bindR_eq, ← PySem.W.ZFast.ze14044960220447912780] at h'
  exact unbind (k := fun v => Fin.done (.ret v)) h'
theorem top_any {α : Type} (k : α → Fin) {t : Sem α} {Q : α → Shared → Prop} {s : Shared} (h : let q := fun f s' => ∀ a, k a = f → Q a s'; Mean prog w A q E R none (t.bind fun a => .pure (k a)) [] s) : wpAny (model prog w) A t Q E s :=
  wpAny_mono (unbind (k := k) h.holds) (fun a _ x => x a rfl) fun _ _ x => x
def valOf : Flow → Value
  | .ret v => v
  | _ => .none
theorem body {b : List Stmt} {env : Env} {s : Shared} (h : wpAny (model prog w) (A.deeper env) (execs b env) (fun f s' => R (.ok (.ret (valOf f))) s') (fun _ _ => False) s) : codeAny (model prog w) A (.func b env) R s :=
  codeAny_func (wpAny_mono h (fun f s' x => by cases f <;> exact x) fun _ _ x => x.elim)
end
abbrev accO (d : Addr) (qs : List Addr) (n : Nat) : Obj := { cls := .ref 101, dict := some d, data := .seq (qs.map Value.ref).toArray n, slots := #[] }
abbrev nInit : Str := ⟨#[95, 105, 110, 105, 116, 105, 97, 108, 95, 115, 105, 122, 101]⟩
abbrev dctO (hs : Int) (tk : Tok) (f : Int) (ft : Tok) : Obj := { cls := .type "dict", data := .dict #[⟨hs, .str nInit tk, .int f ft⟩] 1 }
abbrev tupO (x : Str) (tx : Tok) (y : Str) (ty : Tok) : Obj := { cls := .type "tuple", data := .seq #[.str x tx, .str y ty] 0 }
abbrev lstO (vs : List Value) (n : Nat) : Obj := { cls := .type "list", data := .seq vs.toArray n }
def nth : DT → Nat → Option (Addr × Obj)
  | [], _ => none
  | x :: _, 0 => some x
  | _ :: T, j + 1 => nth T j
abbrev HasAt (T : DT) (j : Nat) (a : Addr) (o : Obj) : Prop := nth T j = some (a, o)
def clsNe : Value → Value → Bool
  | .type s, .type t => !(decide (s = t))
  | .type _, .ref _ => true
  | .ref _, .type _ => true
  | .type _, .none => true
  | .none, .type _ => true
  | .ref _, .none => true
  | .none, .ref _ => true
  | _, _ => false
theorem clsNe_ne {a b : Value} (h : clsNe a b = true) : a ≠ b := by
  rintro rfl
  cases a <;> simp [clsNe] at h
def ndB : List Value → Bool
  | [] => true
  | a :: l => l.all (clsNe a) && ndB l
theorem ndB_nd : ∀ {l : List Value}, ndB l = true → l.Nodup
  | [], _ => List.nodup_nil
  | a :: l, h => by
    simp only [ndB, Bool.and_eq_true, List.all_eq_true] at h
    exact List.nodup_cons.mpr ⟨fun hm => clsNe_ne (h.1 a hm) rfl, ndB_nd h.2⟩
theorem on {P : Addr × Obj → Prop} : ∀ p ∈ ([] : DT), P p := by simp
theorem oc {P : Addr × Obj → Prop} {a : Addr} {o : Obj} {T : DT} (x : P (a, o)) (y : ∀ p ∈ T, P p) : ∀ p ∈ (a, o) :: T, P p := fun p hp => by
  rcases List.mem_cons.mp hp with rfl | hp
  · exact x
  · exact y p hp
abbrev NeC (o o' : Obj) : Prop := clsNe o.cls o'.cls = true
abbrev NdC (T : DT) : Prop := ndB (T.map (·.2.cls)) = true
abbrev Gd (w : World) (h : Heap) : Prop := ∀ a o, slook (KTw w) a = some o → h.get? a = some o
def At (w : World) (h : Heap) (a : Addr) (o : Obj) : Prop := h.get? a = some o ∧ slook (KTw w) a = none
section
variable {w : World} {h₀ h h' : Heap} {a : Addr} {o : Obj} {ks : List Addr} {T : DT} {Z : Nat}
theorem At.kp (x : At w h a o) (K : Kp ks h h') (n : a ∉ ks) : At w h' a o := ⟨K.2 a o x.1 n, x.2⟩
theorem Rep.init (G : Gd w h) (own : ∀ p ∈ T, At w h p.1 p.2) (nd : (T.map (·.1)).Nodup) : Rep (KTw w) h (T.map (·.1)) h T h.objs.size :=
  ⟨rfl, fun p hp => (own p hp).1, nd, fun p hp => (own p hp).2, G, Kp.refl _ _, fun p hp => .inl (List.mem_map_of_mem hp)⟩
theorem Rep.gd (D : Rep (KTw w) h₀ ks h T Z) : Gd w h := D.st
theorem nth_eq : ∀ {T : DT} {j : Nat} {x : Addr × Obj}, nth T j = some x → T[j]? = some x
  | [], _, _, h => nomatch h
  | y :: T, 0, x, h => by
    rw [List.getElem?_cons_zero]; exact h
  | y :: T, j + 1, x, h => by
    rw [List.getElem?_cons_succ]; exact nth_eq h
theorem Rep.at_ (D : Rep (KTw w) h₀ ks h T Z) (j : Nat) (hj : HasAt T j a o) : At w h a o := ⟨D.at (nth_eq hj), D.off _ (List.mem_of_getElem? (nth_eq hj))⟩
theorem Rep.fresh_ (D : Rep (KTw w) h₀ ks h T Z) (j : Nat) (hj : HasAt T j a o) (hn : a ∉ ks) : h₀.get? a = none := (D.new _ (List.mem_of_getElem? (nth_eq hj))).resolve_left hn
end
theorem Kp.only {ks ks' : List Addr} {h h' : Heap} (K : Kp ks h h') (e : ∀ a ∈ ks, a ∉ ks' → ∀ o, h.get? a = some o → h'.get? a = some o) : Kp ks' h h' :=
  ⟨K.1, fun b o x n => if q : b ∈ ks then e b q n o x else K.2 b o x q⟩
theorem ne_of_cls' {a b : Addr} {o o' : Obj} (x : h.get? a = some o) (y : h.get? b = some o') (n : o.cls ≠ o'.cls) : a ≠ b := by
  rintro rfl
  rw [x] at y
  cases y
  exact n rfl
theorem ne_of_cls {a b : Addr} {o o' : Obj} (x : h.get? a = some o) (y : h.get? b = some o') (n : NeC o o') : a ≠ b := ne_of_cls' x y (clsNe_ne n)
theorem Rep.ro {kt : KT} {h h1 : Heap} {ks : List Addr} {T T' : DT} {Z Z' : Nat} (D : Rep kt h ks h T Z) (D1 : Rep kt h ks h1 T' Z') (e : T' = T) (ek : ks = T.map (·.1)) : Kp [] h h1 := by
  subst e ek
  refine ⟨D1.keep.1, fun b o x _ => ?_⟩
  by_cases q : b ∈ T'.map (·.1)
  · obtain ⟨p, hp, rfl⟩ := List.mem_map.mp q
    have := D.own p hp
    rw [this] at x
    rw [← x]; exact D1.own p hp
  · exact D1.keep.2 b o x q
theorem Kp.push {ks : List Addr} {h h' : Heap} (K : Kp ks h h') (o : Obj) : Kp ks h (h'.push o) :=
  ⟨fun b o' e => (K.1 b o' e).elim fun o'' q => ⟨o'', Heap.get?_push_of_some _ q⟩, fun b o' e n => Heap.get?_push_of_some _ (K.2 b o' e n)⟩
theorem Rep.get_new {kt : KT} {ks : List Addr} {T : DT} {Z : Nat} (D : Rep kt h ks h T Z) (_ : h = h) (a : Nat) (x : Z ≤ a) : h.get? a = none := by
  cases q : h.get? a with
  | none => rfl
  | some o =>
    have := Heap.lt_size q
    rw [D.size] at this
    exact absurd (Nat.lt_of_lt_of_le this x) (Nat.lt_irrefl _)
theorem kp_two {h h' : Heap} {p d : Addr} {o : Obj} (K : Kp [p, d] h h') (e : Unit → h.get? d = some o) (e' : h'.get? d = some o) : Kp [p] h h' := by
  refine K.only fun a ha hn o' x => ?_
  have hn : a ≠ p := by simpa using hn
  have ha : a = d := by simpa [hn] using ha
  subst ha
  rw [e ()] at x
  rw [← x]; exact e'
abbrev slcG (a b c : Value) : Obj := { cls := .type "slice", data := .fields #[a, b, c] }
abbrev accX (d : Addr) (xs : Array Value) (n : Nat) : Obj := { cls := .ref 101, dict := some d, data := .seq xs n, slots := #[] }
abbrev lstX (xs : Array Value) (n : Nat) : Obj := { cls := .type "list", data := .seq xs n }
abbrev TT {kt : KT} {h₀ h : Heap} {ks : List Addr} {T : DT} {Z : Nat} (_ : Rep kt h₀ ks h T Z) : DT := T
section
variable {w : World} {h₀ h h' : Heap} {a b c : Addr} {o o' o'' : Obj} {ks : List Addr} {T : DT} {Z : Nat}
theorem Rep.apart' (D : Rep (KTw w) h₀ ks h T Z) (i j : Nat) (hi : T[i]? = some (a, o)) (hj : T[j]? = some (b, o')) (hij : (i == j) = false) : a ≠ b := by
  intro q
  subst q
  have hne : i ≠ j := by simpa using hij
  obtain ⟨li, ei⟩ := List.getElem?_eq_some_iff.mp hi
  obtain ⟨lj, ej⟩ := List.getElem?_eq_some_iff.mp hj
  refine hne ((List.getElem_inj D.nd).mp (?_ : (T.map (·.1))[i]'(by simpa using li) = (T.map (·.1))[j]'(by simpa using lj)))
  simp only [List.getElem_map, ei, ej]
abbrev Apt (T : DT) (i j : Nat) (a b : Addr) (o o' : Obj) : Prop := (nth T i, nth T j, i == j) = (some (a, o), some (b, o'), false)
theorem Rep.apart (D : Rep (KTw w) h₀ ks h T Z) (i j : Nat) (he : Apt T i j a b o o') : a ≠ b := by
  obtain ⟨hi, he⟩ := Prod.mk.inj he
  obtain ⟨hj, hij⟩ := Prod.mk.inj he
  exact D.apart' i j (nth_eq hi) (nth_eq hj) hij
theorem Rep.one (D : Rep (KTw w) h₀ ks h T Z) (i : Nat) (hi : T[i]? = some (a, o)) : Rep (KTw w) h [a] h [(a, o)] h.objs.size :=
  Rep.init (T := [(a, o)]) D.gd (by simp only [List.forall_mem_cons]; exact ⟨⟨D.at hi, D.off _ (List.mem_of_getElem? hi)⟩, by simp⟩) (by simp)
theorem Rep.two (D : Rep (KTw w) h₀ ks h T Z) (i j : Nat) (hi : T[i]? = some (a, o)) (hj : T[j]? = some (b, o')) (hij : (i == j) = false) : Rep (KTw w) h [a, b] h [(a, o), (b, o')] h.objs.size :=
  Rep.init (T := [(a, o), (b, o')]) D.gd (by simp only [List.forall_mem_cons]; exact ⟨⟨D.at hi, D.off _ (List.mem_of_getElem? hi)⟩, ⟨D.at hj, D.off _ (List.mem_of_getElem? hj)⟩, by simp⟩) (by have := D.apart' i j hi hj hij; simpa using this)
theorem Rep.three (D : Rep (KTw w) h₀ ks h T Z) (i j l : Nat) (hi : T[i]? = some (a, o)) (hj : T[j]? = some (b, o')) (hl : T[l]? = some (c, o'')) (hij : (i == j) = false) (hil : (i == l) = false) (hjl : (j == l) = false) :
    Rep (KTw w) h [a, b, c] h [(a, o), (b, o'), (c, o'')] h.objs.size :=
  Rep.init (T := [(a, o), (b, o'), (c, o'')]) D.gd (by simp only [List.forall_mem_cons]; exact ⟨⟨D.at hi, D.off _ (List.mem_of_getElem? hi)⟩, ⟨D.at hj, D.off _ (List.mem_of_getElem? hj)⟩, ⟨D.at hl, D.off _ (List.mem_of_getElem? hl)⟩, by simp⟩) (by
    have h1 := D.apart' i j hi hj hij
    have h2 := D.apart' i l hi hl hil
    have h3 := D.apart' j l hj hl hjl
    simpa using ⟨⟨h1, h2⟩, h3⟩)
theorem Rep.plus (D : Rep (KTw w) h₀ ks h T Z) (K : Kp [] h h') (ha : At w h' a o) (hn : h.get? a = none) : Rep (KTw w) h₀ ks h' ((a, o) :: T) h'.objs.size :=
  (D.same K).more ha.1 (fun p hp q => by have := D.own p hp; rw [q, hn] at this; cases this) ha.2 (.inr (D.keep.fresh hn))
theorem Rep.turnPlus (D : Rep (KTw w) h₀ ks h T Z) {j : Nat} {x : Addr × Obj} (hj : T[j]? = some x) (K : Kp [x.1] h h') (hx : h'.get? x.1 = some o') (ha : At w h' a o) (hn : h.get? a = none) : Rep (KTw w) h₀ ks h' ((a, o) :: T.set j (x.1, o')) h'.objs.size :=
  (D.turn hj K hx).more ha.1 (fun p hp q => by
    rcases getElem?_set_mem (y := (x.1, o')) p hj rfl D.nd hp with rfl | ⟨hp, _⟩
    · have := D.at hj; rw [show x.1 = a from q, hn] at this; cases this
    · have := D.own p hp; rw [q, hn] at this; cases this) ha.2 (.inr (D.keep.fresh hn))
end
theorem Rep.ex {kt : KT} {h₀ h : Heap} {ks : List Addr} {T : DT} {Z : Nat} (D : Rep kt h₀ ks h T Z) : ∃ Z', Rep kt h₀ ks h T Z' := ⟨_, D⟩
theorem ac_handled {c : Option Code} {fr : Frs} (hA : A.handled = none) : (ac A c fr).handled = none := by
  cases c with
  | none => exact hA
  | some c => exact ar_handled hA fr
theorem Kp.upd {h h1 : Heap} {p : Addr} {o : Obj} {f : Obj → Obj} (K : Kp [] h h1) (hp : h1.get? p = some o) (hf : (f o).isFreed = false) : Kp [p] h (h1.update p f) := by
  have hs : Heap.SameBut p h1 (h1.update p f) := Heap.SameBut.update ..
  refine ⟨fun b o' e => ?_, fun b o' e n => (hs.2 b (by simpa using n)).trans (K.2 b o' e (by simp))⟩
  by_cases z : b = p
  · subst z; exact ⟨_, Heap.get?_update_self f hp hf⟩
  · exact (K.1 b o' e).elim fun o'' q => ⟨o'', (hs.2 b z).trans q⟩
theorem depL (k : Nat) {a b m n c : Nat} (e : a = b + k) (h : b + n < c) (hk : Nat.ble (k + m) n = true) : a + m < c := by
  have := Nat.le_of_ble_eq_true hk
  omega
theorem dep (k : Nat) {a b m c : Nat} (e : a = b + k) (h : b + k + m < c) : a + m < c := by omega
theorem Rep.redo {kt : KT} {h₀ h h' : Heap} {ks ks' : List Addr} {T T' : DT} {Z : Nat} (D : Rep kt h₀ ks h T Z) (K : Kp ks' h h') (ek : ∀ a ∈ ks', a ∈ T.map (·.1)) (ea : T'.map (·.1) = T.map (·.1)) (own : ∀ p ∈ T', h'.get? p.1 = some p.2) : ∃ Z', Rep kt h₀ ks h' T' Z' := by
  have hin : ∀ p ∈ T', ∃ q ∈ T, q.1 = p.1 := fun p hp => by
    have : p.1 ∈ T.map (·.1) := by rw [← ea]; exact List.mem_map_of_mem hp
    obtain ⟨q, hq, e⟩ := List.mem_map.mp this
    exact ⟨q, hq, e⟩
  refine ⟨_, rfl, own, by rw [ea]; exact D.nd, fun p hp => ?_, fun a o e => K.2 a o (D.st a o e) fun q => ?_, D.keep.trans K fun x o e q => ?_, fun p hp => ?_⟩
  · obtain ⟨q, hq, e⟩ := hin p hp
    rw [← e]; exact D.off q hq
  · obtain ⟨p, hp, e'⟩ := List.mem_map.mp (ek a q)
    have := D.off p hp
    rw [e', e] at this
    cases this
  · obtain ⟨p, hp, e'⟩ := List.mem_map.mp (ek x q)
    rcases D.new p hp with z | z
    · rw [← e']; exact z
    · rw [e', e] at z
      cases z
  · obtain ⟨q, hq, e⟩ := hin p hp
    rw [← e]; exact D.new q hq
noncomputable def stR (prog : Program) (w : World) (row : String) (b : Bool) : Setting := ⟨prog, (w.withFollow row b).params⟩
noncomputable def stR2 (prog : Program) (w : World) (row : String) (b : Bool) (row' : String) (b' : Bool) : Setting := ⟨prog, ((w.withFollow row b).withFollow row' b').params⟩
def Cf.noOb (c : Cf) : Option Code × Sem Fin × Frs × DT × Nat × Nat := (c.cur, c.t, c.fr, c.T, c.m, c.i)
theorem stR_eq {prog : Program} {row : String} {b : Bool} (h : w.params.followText row = b) : stR prog w row b = ⟨prog, w.params⟩ := by
  subst h
  unfold stR
  rw [World.withFollow_self]
theorem stR2_eq {prog : Program} {row row' : String} {b b' : Bool} (h : w.params.followText row = b) (h' : w.params.followText row' = b') : stR2 prog w row b row' b' = ⟨prog, w.params⟩ := by
  subst h h'
  unfold stR2
  rw [World.withFollow_self, World.withFollow_self]
section
variable {prog : Program} {w : World} {A : Around} {Q : Fin → Shared → Prop} {E : Value → Shared → Prop} {R : Result → Shared → Prop} {kt : KT}
theorem engS (st : Setting) (hst : st = ⟨prog, w.params⟩) (n z : Nat) {c : Option Code} {t : Sem Fin} {fr : Frs} {T : DT} {h₀ h : Heap} {ks : List Addr} {d : Drawn} {t₀ : Nat} {N : Nat} (hA : A.handled = none) (D : Rep kt h₀ ks h T N)
    (hk : Chk (run0 st kt N t₀ n z c t fr T))
    (next : let x := run0 st kt N t₀ n z c t fr T; ∀ h', Rep kt h₀ ks h' x.T (N + x.m) → Mean prog w A Q E R x.cur x.t x.fr ⟨h', g, d, t₀ + x.i, os⟩) :
    Mean prog w A Q E R c t fr ⟨h, g, d, t₀, os⟩ := by
  subst hst
  exact eng n z hA D hk next
abbrev Chk2 (a b : Cf) : Prop := (a.ok, a.ob.map (·.1), b.ok, b.ob.map (·.1), a.noOb) = (true, a.ob.map (·.2), true, b.ob.map (·.2), b.noOb)
theorem eng2 (row : String) (n₁ z₁ n₀ z₀ : Nat) {c : Option Code} {t : Sem Fin} {fr : Frs} {T : DT} {h₀ h : Heap} {ks : List Addr} {d : Drawn} {t₀ : Nat} {N : Nat} (hA : A.handled = none) (D : Rep kt h₀ ks h T N)
    (hk : Chk2 (run0 (stR prog w row true) kt N t₀ n₁ z₁ c t fr T) (run0 (stR prog w row false) kt N t₀ n₀ z₀ c t fr T))
    (next : let x := run0 (stR prog w row false) kt N t₀ n₀ z₀ c t fr T; ∀ h', Rep kt h₀ ks h' x.T (N + x.m) → Mean prog w A Q E R x.cur x.t x.fr ⟨h', g, d, t₀ + x.i, os⟩) :
    Mean prog w A Q E R c t fr ⟨h, g, d, t₀, os⟩ := by
  simp only [Chk2, Prod.mk.injEq] at hk
  obtain ⟨k1, k2, k3, k4, he⟩ := hk
  cases hb : w.params.followText row with
  | false => exact engS _ (stR_eq hb) n₀ z₀ hA D (by rw [Chk, k3, k4]) next
  | true =>
    refine engS _ (stR_eq hb) n₁ z₁ hA D (by rw [Chk, k1, k2]) ?_
    intro x
    have ex : x = run0 (stR prog w row true) kt N t₀ n₁ z₁ c t fr T := rfl
    clear_value x
    rw [← ex] at he
    dsimp only at next
    generalize run0 (stR prog w row false) kt N t₀ n₀ z₀ c t fr T = y at he next
    clear ex
    obtain ⟨_, _, _, _, _, _, _, _⟩ := x
    obtain ⟨_, _, _, _, _, _, _, _⟩ := y
    simp only [Cf.noOb, Prod.mk.injEq] at he
    obtain ⟨rfl, rfl, rfl, rfl, rfl, rfl⟩ := he
    exact next
abbrev AgainAt (cur : Option Code) (fr : Frs) (t : Sem Fin) (c c' : Code) : Prop := (cur, fr, t, c'.quiet) = (some c, [], .pure (.again c'), true)
theorem againC {c : Code} {t : Sem Fin} {fr : Frs} {cur : Option Code} {s : Shared} {c' : Code} (he : AgainAt cur fr t c c') (h : codeAny (model prog w) A c' R s) : Mean prog w A Q E R cur t fr s := by
  obtain ⟨hc, he⟩ := Prod.mk.inj he
  obtain ⟨hf, he⟩ := Prod.mk.inj he
  obtain ⟨e, hq⟩ := Prod.mk.inj he
  refine ⟨?_⟩
  rw [hc, e, hf]
  exact y_pure _ _ _ _ _ _ _ _ _ (y_again _ _ _ _ _ _ hq h)
end
def objAt (T : DT) (j : Nat) : Obj := match T[j]? with
  | some x => x.2
  | none => default
abbrev KpF (k : Nat) (fl : List Bool) (T T' : DT) (ks ks' : List Addr) : Prop := (fl.length, (fl.zip (T'.drop k)).filter (·.1), ((fl.zip T).filter (fun p => !p.1)).map (·.2.1), ks) = (T.length, (fl.zip T).filter (·.1), ks', T.map (·.1))
theorem Rep.kpF {kt : KT} {h h1 : Heap} {ks ks' : List Addr} {T T' : DT} {Z Z' : Nat} (k : Nat) (fl : List Bool) (D : Rep kt h ks h T Z) (D1 : Rep kt h ks h1 T' Z') (he : KpF k fl T T' ks ks') : Kp ks' h h1 := by
  obtain ⟨hl, he⟩ := Prod.mk.inj he
  obtain ⟨e2, he⟩ := Prod.mk.inj he
  obtain ⟨e3, ek⟩ := Prod.mk.inj he
  refine ⟨D1.keep.1, fun b o x n => ?_⟩
  by_cases q : b ∈ T.map (·.1)
  · obtain ⟨p, hp, rfl⟩ := List.mem_map.mp q
    have hx := D.own p hp
    rw [hx] at x
    rw [← x]
    refine D1.own p ?_
    obtain ⟨i, hi, e⟩ := List.mem_iff_getElem.mp hp
    have hm : (fl[i], p) ∈ fl.zip T := by
      refine List.mem_iff_getElem.mpr ⟨i, by simp; omega, ?_⟩
      simp [e]
    cases hf : fl[i] with
    | false =>
      rw [hf] at hm
      exact absurd (e3 ▸ List.mem_map.mpr ⟨(false, p), List.mem_filter.mpr ⟨hm, rfl⟩, rfl⟩) n
    | true =>
      rw [hf] at hm
      have h3 : (true, p) ∈ (fl.zip (T'.drop k)).filter (·.1) := e2 ▸ List.mem_filter.mpr ⟨hm, rfl⟩
      exact List.mem_of_mem_drop ((List.of_mem_zip (List.mem_filter.mp h3).1).2)
  · exact D1.keep.2 b o x (by rw [ek]; exact q)
end Mine
namespace Mine
open PySem PySem.W PySem.W.X PyProof.Rows
open PySem.Builtin
variable {w : World} {A : Around} {R : Result → Shared → Prop} {h : Heap} {g : Array GenState} {dr : Drawn} {tk : Nat} {os : OsState}
abbrev liO (a b : Value) : Obj := { cls := .type "list_iterator", data := .fields #[a, b] }
abbrev stopO (t : Addr) : Obj := { cls := .type "StopIteration", data := .fields #[.ref t, .none, .none, .none, .bool false, .none] }
theorem li_next_some {it src : Addr} {n i : Nat} {xs : Array Value} {v : Value} {ti : Tok} {so : Obj}
    (hA : A.handled = none) (G : Gd w h) (hi : At w h it (liO (.ref src) (.int i ti))) (hs : h.get? src = some so) (hd : so.data = .seq xs n) (hx : xs[i]? = some v)
    (k : ∀ h' tk', Kp [it] h h' → At w h' it (liO (.ref src) (.int (i + 1 : Nat) 0)) → R (.ok (.ret v)) ⟨h', g, dr, tk', os⟩) :
    codeAny (model pw w) A (.call (.builtin "list_iterator.__next__") ⟨[.ref it], []⟩) R ⟨h, g, dr, tk, os⟩ := by
  have D := Rep.init (T := [(it, liO (.ref src) (.int i ti))]) G (by simpa using hi) (by simp)
  have hoff := hi.2
  refine codeAny_call_builtin_at (b := Builtin.«list_iterator.__next__») (by kernel_rfl) (entryFor_of_tree (by kernel_rfl)) ?_
  refine top_any (R := R) (fun _ => .done .next) ?_
  intro θ
  refine eng 1 1 (by exact hA) D (by kernel_rfl) ?_
  intro χ1 h1' D1
  refine finQ (f := .done .next) (by kernel_rfl) ?_
  intro _ _
  have hp := D1.at (j := 0) (x := (it, liO (.ref src) (.int i ti))) (by kernel_rfl)
  have K1 : Kp [] h h1' := D.ro D1 (by kernel_rfl) rfl
  clear D1
  have hs := K1.2 _ _ hs (by simp)
  dsimp only at hp
  generalize tk + Cf.i _ = tk'
  show wpAny _ _ (do
    let seq ← field (.ref it) 0
    if seq == .none then rule _; SmallTypes.stopIteration
    let .int i _ ← field (.ref it) 1 | unsupported _
    let some xs ← seqItems? seq | unsupported _
    match xs[i.toNat]? with
    | some x => setField (.ref it) 1 (rawInt (i + 1)); ret x
    | none => rule _; setField (.ref it) 0 .none; SmallTypes.stopIteration) _ _ _
  refine wpAny_bind (wpAny_field hp rfl (x := .ref src) rfl ?_)
  rw [if_neg (by rw [show (Value.ref src == Value.none) = false from rfl]; exact Bool.false_ne_true)]
  refine wpAny_bind (wpAny_field hp rfl (x := .int i ti) rfl ?_)
  refine wpAny_bind (wpAny_seqItems hs hd ?_)
  dsimp only
  rw [Int.toNat_natCast, hx]
  refine wpAny_bind (wpAny_setField hp rfl (by simp) (wpAny_pure ?_))
  have ge := Heap.get?_update_self (Obj.mapFields (·.setIfInBounds 1 (rawInt ((i : Int) + 1)))) hp rfl
  refine k _ _ (K1.upd hp rfl) ⟨ge.trans ?_, hoff⟩
  rfl
theorem li_next_none {it src : Addr} {n i : Nat} {xs : Array Value} {ti : Tok} {so : Obj}
    (hA : A.handled = none) (G : Gd w h) (hi : At w h it (liO (.ref src) (.int i ti))) (hs : h.get? src = some so) (hd : so.data = .seq xs n) (hx : xs[i]? = none)
    (k : ∀ h' tk' e t, Kp [it] h h' → At w h' it (liO .none (.int i ti)) → At w h' e (stopO t) → h.get? e = none → R (.error (.ref e)) ⟨h', g, dr, tk', os⟩) :
    codeAny (model pw w) A (.call (.builtin "list_iterator.__next__") ⟨[.ref it], []⟩) R ⟨h, g, dr, tk, os⟩ := by
  have D := Rep.init (T := [(it, liO (.ref src) (.int i ti))]) G (by simpa using hi) (by simp)
  have hoff := hi.2
  refine codeAny_call_builtin_at (b := Builtin.«list_iterator.__next__») (by kernel_rfl) (entryFor_of_tree (by kernel_rfl)) ?_
  refine top_any (R := R) (fun _ => .done .next) ?_
  intro θ
  refine eng 1 1 (by exact hA) D (by kernel_rfl) ?_
  intro χ1 h1' D1
  refine finQ (f := .done .next) (by kernel_rfl) ?_
  intro _ _
  have hp := D1.at (j := 0) (x := (it, liO (.ref src) (.int i ti))) (by kernel_rfl)
  have K1 : Kp [] h h1' := D.ro D1 (by kernel_rfl) rfl
  have G1 := D1.gd
  clear D1
  have hs := K1.2 _ _ hs (by simp)
  dsimp only at hp
  generalize tk + Cf.i _ = tk'
  show wpAny _ _ (do
    let seq ← field (.ref it) 0
    if seq == .none then rule _; SmallTypes.stopIteration
    let .int i _ ← field (.ref it) 1 | unsupported _
    let some xs ← seqItems? seq | unsupported _
    match xs[i.toNat]? with
    | some x => setField (.ref it) 1 (rawInt (i + 1)); ret x
    | none => rule _; setField (.ref it) 0 .none; SmallTypes.stopIteration) _ _ _
  refine wpAny_bind (wpAny_field hp rfl (x := .ref src) rfl ?_)
  rw [if_neg (by rw [show (Value.ref src == Value.none) = false from rfl]; exact Bool.false_ne_true)]
  refine wpAny_bind (wpAny_field hp rfl (x := .int i ti) rfl ?_)
  refine wpAny_bind (wpAny_seqItems hs hd ?_)
  dsimp only
  rw [Int.toNat_natCast, hx]
  refine wpAny_bind (wpAny_rule ?_)
  refine wpAny_bind (wpAny_setField hp rfl (by simp) ?_)
  have ge := Heap.get?_update_self (Obj.mapFields (·.setIfInBounds 0 .none)) hp rfl
  have K2 := K1.upd (f := Obj.mapFields (·.setIfInBounds 0 .none)) hp rfl
  generalize hH : h1'.update it (Obj.mapFields (·.setIfInBounds 0 .none)) = H at ge K2
  have hst : ∀ a o, slook (KTw w) a = some o → H.get? a = some o := fun a o e => K2.2 a o (G a o e) (by
    intro q
    have q : a = it := by simpa using q
    rw [q, hoff] at e; cases e)
  unfold SmallTypes.stopIteration
  refine wpAny_bind ?_
  simp only [newExc, newTuple]
  refine wpAny_bind (wpAny_newObj_type ?_ (by size_fits))
  refine wpAny_bind (m := firstArgMember _ _) (wpAny_of_eq (a := Value.none) (by first | rfl | (simp only [firstArgMember]; rfl)) ?_)
  refine wpAny_newObj_type ?_ (by size_fits)
  simp only [raiseNew]
  refine wpAny_bind (wpAny_handled ?_)
  rw [show (A.under _).handled = none from hA]
  refine wpAny_throw ?_
  exact k _ _ _ H.objs.size ((K2.push _).push _) ⟨Heap.get?_push_of_some _ (Heap.get?_push_of_some _ ge), hoff⟩
    ⟨Heap.get?_push_size _ rfl, off_fresh (h := H.push _) (fun a o e => Heap.get?_push_of_some _ (hst a o e)) (get_size _)⟩ ((K2.push _).fresh (get_size _))
def Tup (w : World) (h : Heap) (q : Addr) (c : Str × Str) : Prop := ∃ tx ty, At w h q (tupO c.1 tx c.2 ty)
inductive Row (w : World) (h : Heap) : List Addr → List (Str × Str) → Prop
  | nil : Row w h [] []
  | cons {q : Addr} {c : Str × Str} {qs : List Addr} {cs : List (Str × Str)} : Tup w h q c → Row w h qs cs → Row w h (q :: qs) (c :: cs)
theorem Tup.kp {h h' : Heap} {ks : List Addr} {q : Addr} {c : Str × Str} (x : Tup w h q c) (K : Kp ks h h') (n : q ∉ ks) : Tup w h' q c :=
  let ⟨tx, ty, a⟩ := x; ⟨tx, ty, a.kp K n⟩
theorem Row.keeps {h h' : Heap} {qs : List Addr} {cs : List (Str × Str)} (x : Row w h qs cs) (K : ∀ b ∈ qs, ∀ o, h.get? b = some o → h'.get? b = some o) : Row w h' qs cs := by
  induction x with
  | nil => exact .nil
  | cons a _ ih =>
    refine .cons ?_ (ih fun b hb => K b (.tail _ hb))
    obtain ⟨tx, ty, a⟩ := a
    exact ⟨tx, ty, K _ (.head _) _ a.1, a.2⟩
theorem Row.get {qs : List Addr} {cs : List (Str × Str)} (x : Row w h qs cs) {i : Nat} {q : Addr} (e : qs[i]? = some q) : ∃ c, cs[i]? = some c ∧ Tup w h q c := by
  induction x generalizing i with
  | nil => simp at e
  | cons a _ ih =>
    cases i with
    | zero =>
      simp only [List.getElem?_cons_zero, Option.some.injEq] at e
      subst e
      exact ⟨_, rfl, a⟩
    | succ i => simpa using ih (by simpa using e)
theorem Row.length {qs : List Addr} {cs : List (Str × Str)} (x : Row w h qs cs) : qs.length = cs.length := by
  induction x with
  | nil => rfl
  | cons _ _ ih => simp [ih]
section
variable {w : World} {A : Around} {E : Value → Shared → Prop} {h : Heap} {g : Array GenState} {dr : Drawn} {tk : Nat} {os : OsState} {it src : Addr} {n i : Nat} {xs : Array Value} {ti : Tok} {so : Obj} {Q : Option Value → Shared → Prop}
theorem li_typeIs {it : Addr} {a b : Value} (hi : At w h it (liO a b)) : (⟨h, g, dr, tk, os⟩ : Shared).TypeIs (.ref it) "list_iterator" := ⟨_, hi.1, rfl⟩
theorem nx_item {v : Value} (hA : A.handled = none) (G : Gd w h) (hi : At w h it (liO (.ref src) (.int i ti))) (hs : h.get? src = some so) (hd : so.data = .seq xs n) (hx : xs[i]? = some v)
    (k : ∀ h' tk', Kp [it] h h' → At w h' it (liO (.ref src) (.int (i + 1 : Nat) 0)) → Q (some v) ⟨h', g, dr, tk', os⟩) : wpAny (model pw w) A (pyNext (.ref it)) Q E ⟨h, g, dr, tk, os⟩ := by
  unfold pyNext
  refine wpAny_bind (wpAny_attempt (wpAny_callSpecial?_slot (name := Str.ofString "__next__") (li_typeIs hi) slot_listiter_next (wpAny_call (li_next_some hA G hi hs hd hx fun h' tk' K a => ?_))))
  exact wpAny_pure (k h' tk' K a)
theorem nx_end (hA : A.handled = none) (G : Gd w h) (hi : At w h it (liO (.ref src) (.int i ti))) (hs : h.get? src = some so) (hd : so.data = .seq xs n) (hx : xs[i]? = none)
    (k : ∀ h' tk', Kp [it] h h' → Q none ⟨h', g, dr, tk', os⟩) : wpAny (model pw w) A (pyNext (.ref it)) Q E ⟨h, g, dr, tk, os⟩ := by
  unfold pyNext
  refine wpAny_bind (wpAny_attempt (wpAny_callSpecial?_slot (name := Str.ofString "__next__") (li_typeIs hi) slot_listiter_next (wpAny_call (li_next_none hA G hi hs hd hx fun h' tk' e t K a ae he => ?_))))
  refine wpAny_bind (wpAny_isInstance (T := "StopIteration") (b := true) ⟨_, ae.1, rfl⟩ isSubtype_stop ?_)
  exact wpAny_pure (k h' tk' K)
end
structure AccSt (w : World) (I p d : Addr) (n : Nat) (qs : List Addr) (cs : List (Str × Str)) (i : Nat) (h : Heap) : Prop where
  gd : Gd w h
  it : ∃ ti, At w h I (liO (.ref p) (.int i ti))
  acc : At w h p (accO d qs n)
  row : Row w h qs cs
def AccPt (cs : List (Str × Str)) (i : Nat) (vals : Array Value) : Prop := ∃ c tx ty, cs[i]? = some c ∧ vals = #[.str c.1 tx, .str c.2 ty]
theorem slook_lt {kt : KT} {a : Addr} {o : Obj} (e : slook kt a = some o) : a < 182 := by
  unfold slook at e
  split at e
  · rename_i hb
    exact Nat.le_of_ble_eq_true hb
  · cases e
theorem accWalk {I p d : Addr} {n : Nat} {qs : List Addr} {cs : List (Str × Str)} (hIp : p ≠ I) (hIq : I ∉ qs) (hIs : slook (KTw w) I = none) (A : Around) (hh : A.handled = none) :
    WalksU pw w A I (I :: p :: (qs ++ List.range 182)) [I] qs.length (AccPt cs) (AccSt w I p d n qs cs) (fun i T h => AccSt w I p d n qs cs (i + 1) h ∧ T ∈ qs) where
  sub := fun b hb => by simp at hb; simp [hb]
  frame := fun i h h' st hk => by
    obtain ⟨ti, a⟩ := st.it
    exact ⟨fun a o e => hk a (by have := slook_lt e; simp; exact .inr (.inr (.inr this))) o (st.gd a o e), ⟨ti, hk _ (by simp) _ a.1, a.2⟩, ⟨hk _ (by simp) _ st.acc.1, st.acc.2⟩,
      st.row.keeps fun b hb o e => hk b (by simp [hb]) o e⟩
  item := fun i s Q E hi st hQ => by
    obtain ⟨h, g, dr, tk, os⟩ := s
    obtain ⟨ti, a⟩ := st.it
    obtain ⟨c, hc, tx, ty, ta⟩ := st.row.get (List.getElem?_eq_getElem hi)
    refine nx_item (src := p) (xs := (qs.map Value.ref).toArray) (n := n) (so := accO d qs n) (v := .ref qs[i]) hh st.gd a st.acc.1 rfl (by simp [hi]) fun h' tk' K a' => ?_
    have hm : qs[i] ∈ qs := List.getElem_mem hi
    refine hQ qs[i] #[.str c.1 tx, .str c.2 ty] h' tk' ⟨c, tx, ty, hc, rfl⟩ ⟨_, K.2 _ _ ta.1 (by simp; intro e; exact hIq (e ▸ hm)), rfl, 0, rfl⟩
      ⟨⟨fun b o e => K.2 b o (st.gd b o e) (by
        simp only [List.mem_singleton]
        intro z
        rw [z, hIs] at e
        cases e), ⟨0, a'⟩, st.acc.kp K (by simpa using hIp), st.row.keeps fun b hb o e => K.2 b o e (by simp; intro z; exact hIq (z ▸ hb))⟩, hm⟩ fun b o hb e => K.2 b o e hb
  go := fun elts k pos i T s Q E st hQ => by
    obtain ⟨h, g, dr, tk, os⟩ := s
    obtain ⟨ti, a⟩ := st.1.it
    unfold letOwnedTupleGo
    refine wpAny_bind (wpAny_load a.1 ?_)
    show wpAny _ _ (if (_ : Bool) = true then _ else _) _ _ _
    rw [if_neg (by simp)]
    exact wpAny_pure (hQ h st.1 fun _ _ _ e => e)
  apart := fun i T h st => by simp; intro e; exact hIq (e ▸ st.2)
  done := fun s Q E st hQ => by
    obtain ⟨h, g, dr, tk, os⟩ := s
    obtain ⟨ti, a⟩ := st.it
    refine nx_end (src := p) (xs := (qs.map Value.ref).toArray) (n := n) (so := accO d qs n) hh st.gd a st.acc.1 rfl (by simp) fun h' tk' K => ?_
    exact hQ h' tk' fun b o hb e => K.2 b o e hb
  self := fun i s Q E st hQ => by
    obtain ⟨h, g, dr, tk, os⟩ := s
    obtain ⟨ti, a⟩ := st.it
    refine wpAny_pyIter_slot (li_typeIs a) slot_listiter_iter (wpAny_call_entry slot_listiter_iter (li_typeIs a) entry_listiter_iter ?_ (args_listiter_iter _))
    show wpAny _ _ (ret (.ref I)) _ _ _
    exact wpAny_pure ⟨_, rfl, "list_iterator", _, li_typeIs a, slot_listiter_next.lookup, hQ⟩
end Mine
namespace Mine
open PySem PySem.W PySem.W.X PyProof.Rows
variable {w : World} {A : Around} {R : Result → Shared → Prop} {h : Heap} {g : Array GenState} {dr : Drawn} {tk : Nat} {os : OsState}
def noE : Expr := .Name ⟨#[]⟩ default
def retE : List Stmt → Expr
  | .Return (some e) _ :: _ => e
  | _ => noE
def retP : List Stmt → Pos
  | .Return _ p :: _ => p
  | _ => default
def ifT : List Stmt → Expr
  | .If t _ _ _ :: _ => t
  | _ => noE
def ifB : List Stmt → List Stmt
  | .If _ b _ _ :: _ => b
  | _ => []
def ifO : List Stmt → List Stmt
  | .If _ _ o _ :: _ => o
  | _ => []
def ifP : List Stmt → Pos
  | .If _ _ _ p :: _ => p
  | _ => default
def cmL : Expr → Expr
  | .Compare l _ _ _ => l
  | _ => noE
def cmO : Expr → CmpOp
  | .Compare _ (o :: _) _ _ => o
  | _ => .Eq
def cmR : Expr → Expr
  | .Compare _ _ (r :: _) _ => r
  | _ => noE
def cmP : Expr → Pos
  | .Compare _ _ _ p => p
  | _ => default
section
variable {prog : Program} {w : World} {A : Around} {E : Value → Shared → Prop} {s : Shared} {env : Env}
theorem atRet {b : List Stmt} {Q : Flow → Shared → Prop} (e : b = .Return (some (retE b)) (retP b) :: b.tail) (h : wpAny (model prog w) A (eval (retE b) env) (fun v => Q (.ret v)) E s) : wpAny (model prog w) A (execs b env) Q E s := by
  rw [e]
  exact wpAny_execs_cons (wpAny_Return_some h)
theorem atIf {b : List Stmt} {Q : Flow → Shared → Prop} (e : b = .If (ifT b) (ifB b) (ifO b) (ifP b) :: b.tail)
    (h : wpAny (model prog w) A (isTrue (ifT b) env (eval (ifT b) env)) (fun v s' => wpAny (model prog w) A (execs (if v then ifB b else ifO b) env) (fun f s'' => match f with | .next => wpAny (model prog w) A (execs b.tail env) Q E s'' | f => Q f s'') E s') E s) :
    wpAny (model prog w) A (execs b env) Q E s := by
  rw [e]
  refine wpAny_execs_cons (wpAny_If (wpAny_mono h (fun v s' x => ?_) fun _ _ x => x))
  cases v
  · exact x
  · exact x
theorem atCmp {x : Expr} {Q : Value → Shared → Prop} (e : x = .Compare (cmL x) [cmO x] [cmR x] (cmP x)) (hm : behindInMarks (cmO x) (cmR x) = false)
    (h : wpAny (model prog w) A (eval (cmL x) env) (fun a s₁ => wpAny (model prog w) A (eval (cmR x) env) (fun b s₂ => wpAny (model prog w) A (compareOp (cmO x) a b) Q E s₂) E s₁) E s) :
    wpAny (model prog w) A (eval x env) Q E s := by
  rw [e]
  exact wpAny_Compare1 h hm
theorem cutAt {M : Model} {Γ : Ctx} {Q : Flow → Pos → Shared → Prop} {E : Value → Pos → Shared → Prop} (k : Nat) : ∀ (b : List Stmt) (p : Pos) (s : Shared),
    Sem.wp M Γ (execs (b.take k) env) (fun f p' s' => match f with | .next => Sem.wp M Γ (execs (b.drop k) env) Q E p' s' | f => Q f p' s') E p s → Sem.wp M Γ (execs b env) Q E p s := by
  induction k with
  | zero => intro b p s h; exact h
  | succ k ih =>
    intro b p s h
    cases b with
    | nil => exact h
    | cons st b =>
      rw [List.take_succ_cons, execs_cons, Sem.wp_bind'] at h
      rw [execs_cons, Sem.wp_bind']
      refine Sem.wp_mono M Γ _ (fun f p' s' h' => ?_) (fun _ _ _ h' => h') _ _ h
      cases f <;> first | exact ih b p' s' h' | exact h'
theorem atCut (k : Nat) {b : List Stmt} {Q : Flow → Shared → Prop}
    (h : wpAny (model prog w) A (execs (b.take k) env) (fun f s' => match f with | .next => wpAny (model prog w) A (execs (b.drop k) env) Q E s' | f => Q f s') E s) :
    wpAny (model prog w) A (execs b env) Q E s := by
  intro Γ p hΓ
  refine cutAt k b p s (Sem.wp_mono _ Γ _ (fun f p' s' h' => ?_) (fun _ _ _ h' => h') _ _ (h Γ p hΓ))
  cases f <;> first | exact h' Γ p' hΓ | exact h'
end
end Mine
namespace Mine
open PySem PySem.W PySem.W.X PyProof.Rows
open PySem.Builtin
variable {w : World} {A : Around} {R : Result → Shared → Prop} {h : Heap} {g : Array GenState} {dr : Drawn} {tk : Nat} {os : OsState}
abbrev nFws : Str := Str.ofString "fws"
abbrev nPart : Str := Str.ofString "part"
abbrev lenElt : PySem.Expr := .BinOp (.Call (.Name "len" ⟨26, 20, 26, 23⟩) [.Name nFws ⟨26, 24, 26, 27⟩] [] ⟨26, 20, 26, 28⟩) .Add (.Call (.Name "len" ⟨26, 31, 26, 34⟩) [.Name nPart ⟨26, 35, 26, 39⟩] [] ⟨26, 31, 26, 40⟩) ⟨26, 20, 26, 40⟩
abbrev genS (x : Str) : Scope := ⟨.function, [(".0", .local), (nFws, .local), (nPart, .local), (x, .globalImplicit)], true, false, []⟩
abbrev lenGen : PySem.Expr := .GeneratorExp lenElt [⟨.Tuple [.Name nFws ⟨26, 45, 26, 48⟩, .Name nPart ⟨26, 50, 26, 54⟩] 0 ⟨26, 45, 26, 54⟩, .Name "self" ⟨26, 58, 26, 62⟩, [], 0⟩] (genS "len") ⟨26, 19, 26, 63⟩
theorem wpAt_any {M : Model} {α : Type} {t : Sem α} {Q : α → Shared → Prop} {E : Value → Shared → Prop} {s : Shared} (h : wpAny M A t Q E s) : wpAny M A t Q E s := h
theorem len1 {E : Value → Shared → Prop} {Q : Value → Shared → Prop} {C : Addr} {code : Value} {q : Str} {m : Str → Option Value} {x y : Str} {t : Tok} {p1 p2 pos : Pos} (hx : (genS "len").names.lookup x = some .local) (hd : (x == ("__debug__" : Str)) = false)
    (hA : A.handled = none) (G : Gd w h) (hn : h.Ns C m) (hv : m x = some (.str y t)) (hl : y.length ≤ 1000)
    (k : ∀ h' tk' t', Kp [] h h' → Q (.int y.length t') ⟨h', g, dr, tk', os⟩) :
    wpAny (model pw w) A (eval (.Call (.Name "len" p1) [.Name x p2] [] pos) { scope := genS "len", locals := C, globals := 3, cells := [], qual := q, func := none, code, frame := some C, builtins := 0 }) Q E ⟨h, g, dr, tk, os⟩ := by
  refine wpAny_Call_NameR ?_
  obtain ⟨Z, D⟩ : ∃ Z, Rep (KTw w) h [] h [] Z := ⟨_, Rep.init (T := []) G (by simp) (by simp)⟩
  refine top_eval (R := fun _ _ => True) ?_
  intro θ
  refine eng 3 0 (by exact hA) D (by kernel_rfl) ?_
  intro χ1 h1 D1
  refine finQ (f := .done (.ret (.builtin "len"))) (by kernel_rfl) ?_
  refine Calls.callWith_builtin rfl (Calls.evalArgs_plain (Calls.spliced_cons ?_))
  refine wpAny_Name ?_ hd
  have hnn := hn.keeps (fun b o e => D1.keep.2 b o e (by simp))
  refine wpAny_loadName_local rfl hx hnn hv ?_
  refine Calls.spliced_nil ?_
  refine PySem.P.len_str (by omega) ?_
  exact k _ _ _ D1.keep
theorem len_elt {E : Value → Shared → Prop} {Q : Value → Shared → Prop} {C : Addr} {code : Value} {q : Str} {m : Str → Option Value} {x y : Str} {t u : Tok}
    (hA : A.handled = none) (G : Gd w h) (hn : h.Ns C m) (hx : m nFws = some (.str x t)) (hy : m nPart = some (.str y u)) (hlx : x.length ≤ 1000) (hly : y.length ≤ 1000)
    (k : ∀ h' tk' t', Kp [] h h' → Q (.int ((x.length : Int) + y.length) t') ⟨h', g, dr, tk', os⟩) :
    wpAny (model pw w) A (eval lenElt { scope := genS "len", locals := C, globals := 3, cells := [], qual := q, func := none, code, frame := some C, builtins := 0 }) Q E ⟨h, g, dr, tk, os⟩ := by
  refine wpAny_BinOp ?_
  refine len1 (by decide) (by decide) hA G hn hx hlx fun h1 tk1 t1 K1 => ?_
  refine len1 (by decide) (by decide) hA (fun a o e => K1.2 a o (G a o e) (by simp)) (hn.keeps fun b o e => K1.2 b o e (by simp)) hy hly fun h2 tk2 t2 K2 => ?_
  refine PySem.P.add_int ?_
  exact k _ _ _ (K1.trans K2 fun _ _ _ q => q)
def Tb (h : Heap) (c P : Addr) : Prop := ∃ ps, h.IsCode c P ps ∧ h.TableAt c P ps
theorem Tb.keeps {h h' : Heap} {c P : Addr} (x : Tb h c P) (K : ∀ b o, h.get? b = some o → h'.get? b = some o) : Tb h' c P :=
  let ⟨ps, a, b⟩ := x; ⟨ps, a.keeps K, b.keeps K⟩
theorem code_tb {E : Value → Shared → Prop} {Q : Value → Shared → Prop} {env : Env} {pos : Pos} {qn : Str} {scope : Scope} {c P : Addr} (hc : env.code = .ref c) (ht : Tb h c P)
    (k : ∀ h' tk' c', Kp [P] h h' → Tb h' c P → Q c' ⟨h', g, dr, tk', os⟩) : wpAny (model pw w) A (genexprCode env pos qn scope) Q E ⟨h, g, dr, tk, os⟩ := by
  obtain ⟨ps, hok, htb⟩ := ht
  cases hnf : codeAmong pos ps.toList with
  | some cv =>
    obtain ⟨o, vs, file, tf, flags, tg, inF, text, tt, op, ho, hd, h11, h2, h7, h9, h10, hop, hpd, htr, hne⟩ := id hok
    unfold genexprCode codeAt
    rw [hc, if_neg (show ¬ ((Value.ref c == Value.none) = true) from Bool.false_ne_true)]
    refine wpAny_bind (wpAny_fieldsOf ho hd ?_)
    rw [h11]
    refine wpAny_bind (wpAny_fieldsOf hop hpd ?_)
    rw [hnf]
    exact wpAny_pure (k h tk cv (Kp.refl _ _) ⟨ps, hok, htb⟩)
  | none =>
    refine wpAny_genexprCodeX hc hok htb hnf fun c' h' tk' hx _ _ hok' _ htb' _ => ?_
    refine k h' tk' _ ⟨fun b o e => ?_, fun b o e n => hx b o (by simpa using n) e⟩ ⟨_, hok', htb'⟩
    by_cases z : b = P
    · exact ⟨_, z ▸ htb'.2⟩
    · exact ⟨o, hx b o z e⟩
abbrev fmO (es : Array DictEntry) (n : Nat) : Obj := { cls := .type "frame", data := .dict es n }
theorem range_pass (n : Nat) : passing (fun _ => true) n 0 = List.range n := by simp [passing]
abbrev selfEnv (nm2 : Str) (L : Addr) (q : Str) (f : Option Addr) (cA : Addr) : Env := { scope := ⟨.function, [("self", .local), (nm2, .globalImplicit)], false, false, []⟩, locals := L, globals := 3, cells := [], qual := q, func := f, code := .ref cA, frame := some L, builtins := 0 }
abbrev gEnv (nm : Str) (C : Addr) (q : Str) (code : Value) : Env := { scope := genS nm, locals := C, globals := 3, cells := [], qual := q, func := none, code, frame := some C, builtins := 0 }
theorem Kp.weak {ks ks' : List Addr} {h h' : Heap} (K : Kp ks h h') (e : ∀ a ∈ ks, a ∈ ks') : Kp ks' h h' := ⟨K.1, fun b o x n => K.2 b o x fun q => n (e b q)⟩
theorem Tb.at {h h' : Heap} {c P : Addr} (x : Tb h c P) (kc : ∀ o, h.get? c = some o → h'.get? c = some o) (kp : ∀ o, h.get? P = some o → h'.get? P = some o) : Tb h' c P := by
  obtain ⟨ps, ⟨o, vs, file, tf, flags, tg, inF, text, tt, op, a, r1, r2, r3, r4, r5, r6, b, r⟩, ⟨⟨o', vs', a', r'⟩, t⟩⟩ := x
  exact ⟨ps, ⟨o, vs, file, tf, flags, tg, inF, text, tt, op, kc _ a, r1, r2, r3, r4, r5, r6, kp _ b, r⟩, ⟨⟨o', vs', kc _ a', r'⟩, kp _ t⟩⟩
theorem Tb.old {c P : Addr} (x : Tb h c P) : (∃ o, h.get? c = some o) ∧ ∃ o, h.get? P = some o := by
  obtain ⟨ps, _, ⟨⟨o', vs', a', r'⟩, t⟩⟩ := x
  exact ⟨⟨_, a'⟩, ⟨_, t⟩⟩
theorem walkS_mono {prog : Program} {I : Addr} {fp wr : List Addr} {G : Array GenState → Array GenState → Prop} {n : Nat} {P P' : Nat → Value → Prop} {St : Nat → Shared → Prop} (W : WalksS prog w A I fp wr G n P St) (h : ∀ i v, P i v → P' i v) : WalksS prog w A I fp wr G n P' St where
  sub := W.sub
  grefl := W.grefl
  gtrans := W.gtrans
  frame := W.frame
  item := fun i s Q E hi st hQ => W.item i s Q E hi st fun v s' hP => hQ v s' (h _ _ hP)
  done := W.done
  self := W.self
theorem gen_make {E : Value → Shared → Prop} {Q : Value → Shared → Prop} {L p d cA P : Addr} {n en Z : Nat} {h0 : Int} {t0 : Tok} {qs : List Addr} {cs : List (Str × Str)}
    {nm nm2 q : Str} {f : Option Addr} {elt : PySem.Expr} {pa pb pt ps pos : Pos} (F : Nat → Value → Prop)
    (hA : A.handled = none) (hroom : A.depth < recursionLimit) (D : Rep (KTw w) h [L, p + 182] h [(L, fmO #[⟨h0, .str "self" t0, .ref (p + 182)⟩] en), (p + 182, accO d qs n)] Z) (hr : Row w h qs cs) (ht : Tb h cA P) (hcs : P ≠ p + 182) (hPs : slook (KTw w) P = none) (hPq : P ∉ qs)
    (helt : ∀ (A' : Around) E' i c tx ty h₂ g₂ dr₂ tk₂ os₂ C code m (Q' : Value → Shared → Prop), A'.handled = none → cs[i]? = some c → Gd w h₂ → h₂.Ns C m → m nFws = some (.str c.1 tx) → m nPart = some (.str c.2 ty) →
      (∀ y h' tk', F i y → Kp [] h₂ h' → Q' y ⟨h', g₂, dr₂, tk', os₂⟩) → wpAny (model pw w) A' (eval elt (gEnv nm C (q ++ "<genexpr>.") code)) Q' E' ⟨h₂, g₂, dr₂, tk₂, os₂⟩)
    (k : ∀ a s₁ fp wr gn St, WalksS pw w A.in4 a fp wr (GenOnlyQ gn) qs.length F St → St 0 s₁ → (∀ b ∈ fp, b < s₁.heap.objs.size) → a ∈ fp → (∀ i s, St i s → s.TypeIs (.ref a) "generator") → Gd w s₁.heap →
      (∀ b ∈ wr, h.get? b = none) → Kp [P] h s₁.heap →
      (∀ s', Moved wr (GenOnlyQ gn) s₁ s' → Kp [P] h s'.heap ∧ Tb s'.heap cA P ∧ (AllBare g → AllBare s'.gens) ∧ s'.drawn = dr ∧ s'.os = os) → Q (.ref a) s₁) :
    wpAny (model pw w) A (eval (.GeneratorExp elt [⟨.Tuple [.Name nFws pa, .Name nPart pb] 0 pt, .Name "self" ps, [], 0⟩] (genS nm) pos) (selfEnv nm2 L q f cA)) Q E ⟨h, g, dr, tk, os⟩ := by
  refine wpAny_GeneratorExp_walksQT (cl := []) hA rfl (by
    unfold closureFor
    rfl) (by simp) (by rfl) (by rfl) (by rfl) (by decide) rfl hroom ?_ (fun _ => rfl)
  refine top_eval (R := fun _ _ => True) ?_
  intro θ
  refine eng 2 256 (by exact hA) D (by kernel_rfl) ?_
  intro χ1 h1 D1
  refine finQ (f := .done (.ret (.ref (p + 182)))) (by kernel_rfl) ?_
  refine top_any (R := fun _ _ => True) (fun v => .done (.ret v)) ?_
  intro θ
  refine eng 8 8589934594 (by exact hA) D1 (by kernel_rfl) ?_
  intro χ2 h2 D2
  refine eng2 "special-get-raises" 1 0 1 0 (by exact hA) D2 (by kernel_rfl) ?_
  intro χ3 h3 D3
  refine eng 7 281474976711168 (by exact hA) D3 (by kernel_rfl) ?_
  intro χ4 h4 D4
  refine finQ (f := .done (.ret (.ref (adrAt χ4.T 0)))) (by kernel_rfl) ?_
  intro a ha; cases ha
  have aI := D4.at_ (a := adrAt χ4.T 0) (o := liO (.ref (p + 182)) (.int 0 0)) 0 (by kernel_rfl)
  have fI := D4.fresh_ (a := adrAt χ4.T 0) (o := liO (.ref (p + 182)) (.int 0 0)) 0 (by kernel_rfl)
  have aL := D4.at_ (a := L) (o := fmO #[⟨h0, .str "self" t0, .ref (p + 182)⟩] en) 1 (by kernel_rfl)
  have aP := D4.at_ (a := p + 182) (o := accO d qs n) 2 (by kernel_rfl)
  have apL := D4.apart (a := adrAt χ4.T 0) (o := liO (.ref (p + 182)) (.int 0 0)) (b := L) (o' := fmO #[⟨h0, .str "self" t0, .ref (p + 182)⟩] en) 0 1 (by kernel_rfl)
  have apP := D4.apart (a := adrAt χ4.T 0) (o := liO (.ref (p + 182)) (.int 0 0)) (b := p + 182) (o' := accO d qs n) 0 2 (by kernel_rfl)
  have K4 : Kp [] h h4 := D4.keep.only fun b hb _ o e => by
    have hb : b = L ∨ b = p + 182 := by simpa using hb
    rcases hb with rfl | rfl
    · rw [show h.get? b = _ from D.at (j := 0) rfl] at e
      rw [← e]; exact aL.1
    · rw [show h.get? (p + 182) = _ from D.at (j := 1) rfl] at e
      rw [← e]; exact aP.1
  have G4 := D4.gd
  have nl := noLimitW D4
  have hI := fI (by simp [apL, apP])
  clear fI apL D3 D2 D1
  generalize adrAt χ4.T 0 = I at *
  clear D4
  refine ⟨nl, ?_⟩
  generalize tk + _ + _ + _ + _ = tk4
  refine code_tb (c := cA) (P := P) rfl (ht.keeps fun b o e => K4.2 b o e (by simp)) fun h5 tk5 c5 K5 t5 => ?_
  have G5 : Gd w h5 := fun a o e => K5.2 a o (G4 a o e) (by
    intro z
    have z : a = P := by simpa using z
    rw [z, hPs] at e; cases e)
  obtain ⟨Z5, D5⟩ : ∃ Z, Rep (KTw w) h5 [] h5 [] Z := ⟨_, Rep.init (T := []) G5 (by simp) (by simp)⟩
  refine top_any (R := fun _ _ => True) (fun v => .done (.ret (.ref v))) ?_
  intro θ
  refine eng 2 0 (by exact hA) D5 (by kernel_rfl) ?_
  intro χ6 h6 D6
  refine finQ (f := .done (.ret (.ref 0))) (by kernel_rfl) ?_
  intro a ha; cases ha
  have K6 : Kp [] h5 h6 := D6.keep
  have G6 := D6.gd
  have nl6 := noLimitW D6
  clear D6 D5
  generalize tk5 + _ = tk6
  have K46 : Kp [P] h h6 := ((K4.weak (ks' := [P]) (by simp)).trans K5 fun _ _ _ q => q).trans K6 fun _ _ _ q => by simp at q
  have t6 : Tb h6 cA P := t5.keeps fun b o e => K6.2 b o e (by simp)
  have aI6 : At w h6 I (liO (.ref (p + 182)) (.int (0 : Nat) 0)) := (aI.kp K5 (by
    intro z
    have z : I = P := by simpa using z
    obtain ⟨o, ho⟩ := ht.old.2
    rw [← z, hI] at ho; cases ho)).kp K6 (by simp)
  have aP6 : At w h6 (p + 182) (accO d qs n) := (aP.kp K5 (by simpa using Ne.symm hcs)).kp K6 (by simp)
  have r6 : Row w h6 qs cs := hr.keeps fun b hb o e => K46.2 b o e (by simp; intro z; exact hPq (z ▸ hb))
  have hIq : I ∉ qs := fun hm => by
    obtain ⟨j, hj, e⟩ := List.mem_iff_getElem.mp hm
    obtain ⟨c, _, tx, ty, a⟩ := hr.get (i := j) (q := I) (by rw [List.getElem?_eq_getElem hj, e])
    have a1 := a.1
    rw [hI] at a1; cases a1
  have hsz : p + 182 < h6.objs.size := Heap.lt_size aP6.1
  refine ⟨I, I :: (p + 182) :: (qs ++ List.range 182), [I], qs.length, AccPt cs, AccSt w I (p + 182) d n qs cs, (fun i T h => AccSt w I (p + 182) d n qs cs (i + 1) h ∧ T ∈ qs), (fun _ => true), F, rfl,
    fun A' hA' => accWalk (Ne.symm apP) hIq aI6.2 A' hA', fun i vals ⟨c, tx, ty, _, e⟩ => ⟨_, _, e⟩, ⟨G6, ⟨0, aI6⟩, aP6, r6⟩, ?_, nl6, ?_, ?_, ?_⟩
  · intro b hb
    rcases List.mem_cons.mp hb with rfl | hb
    · exact Heap.lt_size aI6.1
    rcases List.mem_cons.mp hb with rfl | hb
    · exact hsz
    rcases List.mem_append.mp hb with hb | hb
    · obtain ⟨j, hj, e⟩ := List.mem_iff_getElem.mp hb
      obtain ⟨c, _, tx, ty, a⟩ := r6.get (i := j) (q := b) (by rw [List.getElem?_eq_getElem hj, e])
      exact Heap.lt_size a.1
    · exact Nat.lt_trans (List.mem_range.mp hb) (Nat.lt_of_le_of_lt (Nat.le_add_left _ _) hsz)
  · intro z
    have z : cStatics = I := by simpa using z
    have e2 : slook (KTw w) cStatics = some (unO (slook (KTw w) cStatics)) := by kernel_rfl
    rw [z, aI6.2] at e2
    cases e2
  · intro href hk
    refine ⟨fun A' E' i va vb s₂ m₂ hh hPt hn hxa hxb hkp => wpAny_pure ⟨rfl, s₂.heap, s₂.toks, rfl, fun _ _ e => e⟩, fun A' E' i va vb s₂ m₂ hh hPt hpz hn hxa hxb hkp => ?_⟩
    obtain ⟨c, tx, ty, hc, e⟩ := hPt
    simp only [Array.mk.injEq, List.cons.injEq, and_true] at e
    obtain ⟨rfl, rfl⟩ := e
    obtain ⟨h₂, g₂, dr₂, tk₂, os₂⟩ := s₂
    refine helt A' E' i c tx ty h₂ g₂ dr₂ tk₂ os₂ _ _ m₂ _ hh hc (fun a o e => hkp a (List.mem_range.mpr (Heap.lt_size (G6 a o e))) (by
      intro z
      have z : a = I := by simpa using z
      rw [z, aI6.2] at e; cases e) o (hk a o (G6 a o e))) hn hxa hxb fun y h' tk' hF K => ⟨hF, h', tk', rfl, fun b o e => K.2 b o e (by simp)⟩
  · intro a h₅ tk₅ gs hgs ha hs5 hk5 W GA
    rw [range_pass, List.length_range] at W
    have hwn : ∀ b ∈ [h6.objs.size, I], h.get? b = none := fun b hb => by
      rcases List.mem_cons.mp hb with rfl | hb
      · cases q : h.get? h6.objs.size with
        | none => rfl
        | some o =>
          obtain ⟨o', e'⟩ := K46.1 _ _ q
          exact absurd (Heap.lt_size e') (Nat.lt_irrefl _)
      · have hb : b = I := by simpa using hb
        rw [hb]; exact hI
    refine k a _ _ _ g.size _ (walkS_mono W fun j y hy => ?_) GA ?_ (List.mem_cons_self ..) (fun i s st => st.1.typeIs) (fun a o e => hk5 a o (G6 a o e)) hwn ⟨fun b o e => ?_, fun b o e n => hk5 b o (K46.2 b o e n)⟩ ?_
    · obtain ⟨i, hi, hF⟩ := hy
      obtain ⟨_, hi⟩ := List.getElem?_eq_some_iff.mp hi
      simp only [List.getElem_range] at hi
      rw [hi]; exact hF
    · intro b hb
      show b < h₅.objs.size
      rw [hs5]
      rcases List.mem_cons.mp hb with rfl | hb
      · exact Nat.lt_succ_self _
      rcases List.mem_cons.mp hb with rfl | hb
      · exact Nat.lt_succ_of_lt ha
      · exact Nat.lt_succ_of_lt (Nat.lt_trans (List.mem_range.mp hb) ha)
    · obtain ⟨o', e'⟩ := K46.1 b o e
      exact ⟨o', hk5 _ _ e'⟩
    · intro s' hm
      have hne : ∀ b o, h.get? b = some o → b ∉ [h6.objs.size, I] := fun b o e q => by
        rw [hwn b q] at e; cases e
      refine ⟨⟨fun b o e => ?_, fun b o e n => hm.heap b o (hne b o e) (hk5 b o (K46.2 b o e n))⟩, t6.at (fun o e => ?_) (fun o e => ?_), fun hb => (AllBare.push hb hgs).moved hm.gens, hm.drawn, hm.os⟩
      · obtain ⟨o', e'⟩ := K46.1 b o e
        exact ⟨o', hm.heap b o' (hne b o e) (hk5 b o' e')⟩
      · obtain ⟨o', e'⟩ := ht.old.1
        exact hm.heap _ o (hne _ _ e') (hk5 _ o e)
      · obtain ⟨o', e'⟩ := ht.old.2
        exact hm.heap _ o (hne _ _ e') (hk5 _ o e)
end Mine
namespace Mine
open PySem PySem.W PySem.W.X PyProof.Rows
open PySem.Builtin PySem.Builtin.List
variable {w : World} {A : Around} {R : Result → Shared → Prop} {h : Heap} {g : Array GenState} {dr : Drawn} {tk : Nat} {os : OsState}
theorem append_acc {p : Addr} {d : Addr} {n Z : Nat} {xs : Array Value} {v : Value}
    (hA : A.handled = none) (D : Rep (KTw w) h [p] h [(p, accX d xs n)] Z) (hsz : xs.size ≤ 1000)
    (k : ∀ h' tk', Kp [p] h h' → At w h' p (accX d (xs.push v) (n + 1)) → R (.ok (.ret .none)) ⟨h', g, dr, tk', os⟩) :
    codeAny (model pw w) A (.call (.builtin "list.append") ⟨[.ref p, v], []⟩) R ⟨h, g, dr, tk, os⟩ := by
  have hoff := D.off _ (.head _)
  refine codeAny_call_builtin_at (b := Builtin.«list.append») (by kernel_rfl) (entryFor_of_tree (by kernel_rfl)) ?_
  refine top_any (R := R) (fun _ => .done .next) ?_
  intro θ
  refine eng 2 1 (by exact hA) D (by kernel_rfl) ?_
  intro χ1 h1' D1
  refine finQ (f := .done .next) (by kernel_rfl) ?_
  intro _ _
  have hp := D1.at (j := 0) (x := (p, accX d xs n)) (by kernel_rfl)
  have K1 : Kp [] h h1' := D.ro D1 (by kernel_rfl) rfl
  clear D1
  dsimp only at hp
  generalize tk + Cf.i _ = tk'
  show wpAny _ _ (updateSeq p (·.push v) >>= fun _ => ret .none) _ _ _
  refine wpAny_bind (wpAny_updateSeq hp rfl ?_ (by simp only [sizeLine]; omega) (by simp only [Array.size_push, sizeLine]; omega))
  have ge := Heap.get?_update_self (Obj.mapSeq (·.push v)) hp rfl
  refine wpAny_pure (k _ _ (K1.upd hp rfl) ⟨ge.trans ?_, hoff⟩)
  simp [Obj.mapSeq]
theorem append_lst {p : Addr} {n Z : Nat} {xs : Array Value} {v : Value}
    (hA : A.handled = none) (D : Rep (KTw w) h [p] h [(p, lstX xs n)] Z) (hsz : xs.size ≤ 1000)
    (k : ∀ h' tk', Kp [p] h h' → At w h' p (lstX (xs.push v) (n + 1)) → R (.ok (.ret .none)) ⟨h', g, dr, tk', os⟩) :
    codeAny (model pw w) A (.call (.builtin "list.append") ⟨[.ref p, v], []⟩) R ⟨h, g, dr, tk, os⟩ := by
  have hoff := D.off _ (.head _)
  refine codeAny_call_builtin_at (b := Builtin.«list.append») (by kernel_rfl) (entryFor_of_tree (by kernel_rfl)) ?_
  refine top_any (R := R) (fun _ => .done .next) ?_
  intro θ
  refine eng 1 1 (by exact hA) D (by kernel_rfl) ?_
  intro χ1 h1' D1
  refine finQ (f := .done .next) (by kernel_rfl) ?_
  intro _ _
  have hp := D1.at (j := 0) (x := (p, lstX xs n)) (by kernel_rfl)
  have K1 : Kp [] h h1' := D.ro D1 (by kernel_rfl) rfl
  clear D1
  dsimp only at hp
  generalize tk + Cf.i _ = tk'
  show wpAny _ _ (updateSeq p (·.push v) >>= fun _ => ret .none) _ _ _
  refine wpAny_bind (wpAny_updateSeq hp rfl ?_ (by simp only [sizeLine]; omega) (by simp only [Array.size_push, sizeLine]; omega))
  have ge := Heap.get?_update_self (Obj.mapSeq (·.push v)) hp rfl
  refine wpAny_pure (k _ _ (K1.upd hp rfl) ⟨ge.trans ?_, hoff⟩)
  simp [Obj.mapSeq]
end Mine
namespace Mine
open PySem PySem.W PySem.W.X PyProof.Rows
variable {w : World} {A : Around} {R : Result → Shared → Prop} {h : Heap} {g : Array GenState} {dr : Drawn} {tk : Nat} {os : OsState}
theorem Rep.to {kt : KT} {h₀ h : Heap} {ks : List Addr} {T : DT} {Z : Nat} (D : Rep kt h₀ ks h T Z) (T' : DT) (e : T = T') : Rep kt h (T'.map (·.1)) h T' h.objs.size := by
  subst e
  exact ⟨rfl, D.own, D.nd, D.off, D.st, Kp.refl _ _, fun p hp => .inl (List.mem_map_of_mem hp)⟩
def eHi (o : Obj) (i : Nat) : Int := match o.data with
  | .dict es _ => match es[i]? with
    | some e => e.hash
    | none => 0
  | _ => 0
def eKi (o : Obj) (i : Nat) : Tok := match o.data with
  | .dict es _ => match es[i]? with
    | some e => match e.key with
      | .str _ t => t
      | _ => 0
    | none => 0
  | _ => 0
abbrev nDot : Str := ⟨#[46, 48]⟩
abbrev nPiece : Str := ⟨#[112, 105, 101, 99, 101]⟩
abbrev piS : Scope := ⟨.function, [(nDot, .local), (nPiece, .local)], false, false, []⟩
abbrev nsO (es : Array DictEntry) (n : Nat) : Obj := { cls := .type "dict", data := .dict es n }
abbrev piE (p1 p2 : Pos) (iter : PySem.Expr) (pos : Pos) : PySem.Expr := .ListComp (.Name nPiece p1) [⟨.Name nPiece p2, iter, [], 0⟩] piS pos
abbrev cEnv (S : Scope) (L gl : Addr) (cl : List (Str × Addr)) (q : Str) (f : Option Addr) (co : Value) (fr : Option Addr) (bi : Addr) : Env := { scope := S, locals := L, globals := gl, cells := cl, qual := q, func := f, code := co, frame := fr, builtins := bi }
def OneOf (x : Str) (es : Array DictEntry) : Prop := es = #[] ∨ ∃ hs t v, es = #[⟨hs, .str x t, v⟩]
theorem comp_id_loop {L acc it src : Addr} {ns : Nat} {so : Obj} {qs : List Addr}
   {iter : PySem.Expr} {p1 p2 pos : Pos} {gl : Addr} {cl : List (Str × Addr)} {q : Str} {f : Option Addr} {co : Value} {fr : Option Addr} {bi : Addr}
    (hA : A.handled = none) (hsd : so.data = .seq (qs.map Value.ref).toArray ns) (hsz : qs.length ≤ 500) :
    ∀ (rest : List Addr) (i : Nat) (h : Heap) (tk : Nat) (na en : Nat) (ys : Array Value) (es : Array DictEntry) (ti : Tok) (Z : Nat), qs.drop i = rest → ys.size ≤ i → OneOf nPiece es →
    Rep (KTw w) h [L, acc, it] h [(L, nsO es en), (acc, lstX ys na), (it, liO (.ref src) (.int i ti))] Z → At w h src so → src ∉ [L, acc, it] →
    (∀ h' tk' es' en' na' v, Kp [L, acc, it] h h' → OneOf nPiece es' → At w h' L (nsO es' en') → At w h' acc (lstX (ys ++ (rest.map Value.ref).toArray) na') → At w h' it (liO .none v) → R (.ok .next) ⟨h', g, dr, tk', os⟩) →
    codeAny (model pw w) A (.compLoop (piE p1 p2 iter pos) 0 (.ref it) (.ref acc) (cEnv piS L gl cl q f co fr bi)) R ⟨h, g, dr, tk, os⟩ := by
  intro rest
  induction rest with
  | nil =>
    intro i h tk na en ys es ti Z hr hyi hes D hs hn k
    refine start (Q := fun _ _ => True) (E := fun _ _ => True) ?_
    refine eng 2 768 (by exact hA) D (by kernel_rfl) ?_
    intro χ1 h1 D1
    refine hook (c' := .call (.builtin "list_iterator.__next__") ⟨[.ref it], []⟩) (by kernel_rfl) ?_
    have hi : qs.length ≤ i := List.drop_eq_nil_iff.mp hr
    refine li_next_none (i := i) (src := src) (ti := ti) (xs := (qs.map Value.ref).toArray) (n := ns) (so := so) (ac_handled hA) D1.gd (D1.at_ 2 (by kernel_rfl)) (D1.keep.2 _ _ hs.1 hn) hsd (by simp [hi]) ?_
    intro h2 tk2 e t K2 a2 ae he
    refine Exists.elim ((D1.turnPlus (j := 2) (x := (it, liO (.ref src) (.int i ti))) (by kernel_rfl) K2 a2.1 ae he).ex) ?_
    intro Z2 D2
    refine eng 1 1 (by exact hA) D2 (by kernel_rfl) ?_
    intro χ3 h3 D3
    refine fin (f := .next) (by kernel_rfl) ?_
    refine k h3 _ es en na (.int i ti) D3.keep hes (D3.at_ 1 (by kernel_rfl)) ?_ (D3.at_ 3 (by kernel_rfl))
    have := D3.at_ (a := acc) (o := lstX ys na) 2 (by kernel_rfl)
    simpa using this
  | cons v rest ih =>
    intro i h tk na en ys es ti Z hr hyi hes D hs hn k
    have hv : (qs.map Value.ref).toArray[i]? = some (.ref v) := by
      have := List.head?_drop (l := qs) (i := i)
      rw [hr] at this
      simp [← this]
    have hr' : qs.drop (i + 1) = rest := by rw [← List.drop_drop, hr]; rfl
    have hil : i < qs.length := by
      have := congrArg List.length hr
      simp at this; omega
    have done : ∀ h3 tk3 hs3 t3 en3 ti3 Z3, Rep (KTw w) h [L, acc, it] h3 [(L, nsO #[⟨hs3, .str nPiece t3, .ref v⟩] en3), (acc, lstX (ys.push (.ref v)) (na + 1)), (it, liO (.ref src) (.int (i + 1 : Nat) ti3))] Z3 →
        codeAny (model pw w) A (.compLoop (piE p1 p2 iter pos) 0 (.ref it) (.ref acc) (cEnv piS L gl cl q f co fr bi)) R ⟨h3, g, dr, tk3, os⟩ := by
      intro h3 tk3 hs3 t3 en3 ti3 Z3 D3
      refine ih (i + 1) h3 tk3 (na + 1) en3 (ys.push (.ref v)) _ ti3 _ hr' (by simp; omega) (.inr ⟨_, _, _, rfl⟩) (D3.to _ rfl) ⟨D3.keep.2 _ _ hs.1 hn, hs.2⟩ hn ?_
      intro h' tk' es' en' na' x K' a b c d
      refine k h' tk' es' en' na' x (D3.keep.trans K' fun _ _ _ q => q) a b ?_ d
      have e : ys ++ (((v :: rest).map Value.ref).toArray) = ys.push (.ref v) ++ (rest.map Value.ref).toArray := by
        apply Array.ext'; simp
      rw [e]; exact c
    rcases hes with rfl | ⟨hs0, t0, v0, rfl⟩
    · refine start (Q := fun _ _ => True) (E := fun _ _ => True) ?_
      refine eng 2 768 (by exact hA) D (by kernel_rfl) ?_
      intro χ1 h1 D1
      refine hook (c' := .call (.builtin "list_iterator.__next__") ⟨[.ref it], []⟩) (by kernel_rfl) ?_
      refine li_next_some (i := i) (src := src) (ti := ti) (v := .ref v) (xs := (qs.map Value.ref).toArray) (n := ns) (so := so) (ac_handled hA) D1.gd (D1.at_ 2 (by kernel_rfl)) (D1.keep.2 _ _ hs.1 hn) hsd hv ?_
      intro h2 tk2 K2 a2
      refine Exists.elim ((D1.turn (j := 2) (x := (it, liO (.ref src) (.int i ti))) (by kernel_rfl) K2 a2.1).ex) ?_
      intro Z2 D2
      refine eng 9 18446745177516146688 (by exact hA) D2 (by kernel_rfl) ?_
      intro χ3 h3 D3
      refine hook (c' := .call (.builtin "list.append") ⟨[.ref acc, .ref v], []⟩) (by kernel_rfl) ?_
      refine append_lst (n := na) (xs := ys) (v := .ref v) (ac_handled hA) (D3.one 1 (by kernel_rfl)) (by omega) ?_
      intro h4 tk4 K4 a4
      refine Exists.elim ((D3.turn (j := 1) (x := (acc, lstX ys na)) (by kernel_rfl) K4 a4.1).ex) ?_
      intro Z4 D4
      refine againC (c' := .compLoop (piE p1 p2 iter pos) 0 (.ref it) (.ref acc) (cEnv piS L gl cl q f co fr bi)) (c := .compLoop (piE p1 p2 iter pos) 0 (.ref it) (.ref acc) (cEnv piS L gl cl q f co fr bi)) (by kernel_rfl) ?_
      refine done h4 _ (eHi (objAt (TT D4) 0) 0) (eKi (objAt (TT D4) 0) 0) (en + 1) 0 Z4 ?_
      have e : TT D4 = [(L, nsO #[⟨eHi (objAt (TT D4) 0) 0, .str nPiece (eKi (objAt (TT D4) 0) 0), .ref v⟩] (en + 1)), (acc, lstX (ys.push (.ref v)) (na + 1)), (it, liO (.ref src) (.int (i + 1 : Nat) 0))] := by kernel_rfl
      rw [← e]; exact D4
    · refine start (Q := fun _ _ => True) (E := fun _ _ => True) ?_
      refine eng 2 768 (by exact hA) D (by kernel_rfl) ?_
      intro χ1 h1 D1
      refine hook (c' := .call (.builtin "list_iterator.__next__") ⟨[.ref it], []⟩) (by kernel_rfl) ?_
      refine li_next_some (i := i) (src := src) (ti := ti) (v := .ref v) (xs := (qs.map Value.ref).toArray) (n := ns) (so := so) (ac_handled hA) D1.gd (D1.at_ 2 (by kernel_rfl)) (D1.keep.2 _ _ hs.1 hn) hsd hv ?_
      intro h2 tk2 K2 a2
      refine Exists.elim ((D1.turn (j := 2) (x := (it, liO (.ref src) (.int i ti))) (by kernel_rfl) K2 a2.1).ex) ?_
      intro Z2 D2
      refine eng 9 18446745177516146688 (by exact hA) D2 (by kernel_rfl) ?_
      intro χ3 h3 D3
      refine hook (c' := .call (.builtin "list.append") ⟨[.ref acc, .ref v], []⟩) (by kernel_rfl) ?_
      refine append_lst (n := na) (xs := ys) (v := .ref v) (ac_handled hA) (D3.one 1 (by kernel_rfl)) (by omega) ?_
      intro h4 tk4 K4 a4
      refine Exists.elim ((D3.turn (j := 1) (x := (acc, lstX ys na)) (by kernel_rfl) K4 a4.1).ex) ?_
      intro Z4 D4
      refine againC (c' := .compLoop (piE p1 p2 iter pos) 0 (.ref it) (.ref acc) (cEnv piS L gl cl q f co fr bi)) (c := .compLoop (piE p1 p2 iter pos) 0 (.ref it) (.ref acc) (cEnv piS L gl cl q f co fr bi)) (by kernel_rfl) ?_
      refine done h4 _ (eHi (objAt (TT D4) 0) 0) (eKi (objAt (TT D4) 0) 0) en 0 Z4 ?_
      have e : TT D4 = [(L, nsO #[⟨eHi (objAt (TT D4) 0) 0, .str nPiece (eKi (objAt (TT D4) 0) 0), .ref v⟩] en), (acc, lstX (ys.push (.ref v)) (na + 1)), (it, liO (.ref src) (.int (i + 1 : Nat) 0))] := by kernel_rfl
      rw [← e]; exact D4
theorem comp_id {na en Z : Nat} {L acc it src : Addr} {ns : Nat} {so : Obj} {qs : List Addr} {ti : Tok}
   {iter : PySem.Expr} {p1 p2 pos : Pos} {gl : Addr} {cl : List (Str × Addr)} {q : Str} {f : Option Addr} {co : Value} {fr : Option Addr} {bi : Addr}
    (hA : A.handled = none) (hsd : so.data = .seq (qs.map Value.ref).toArray ns) (hsz : qs.length ≤ 500)
    (D : Rep (KTw w) h [L, acc, it] h [(L, nsO #[] en), (acc, lstX #[] na), (it, liO (.ref src) (.int 0 ti))] Z) (hs : At w h src so) (hn : src ∉ [L, acc, it])
    (k : ∀ h' tk' es' en' na' v, Kp [L, acc, it] h h' → OneOf nPiece es' → At w h' L (nsO es' en') → At w h' acc (lstO (qs.map Value.ref) na') → At w h' it (liO .none v) → R (.ok .next) ⟨h', g, dr, tk', os⟩) :
    codeAny (model pw w) A (.compStart (piE p1 p2 iter pos) 0 (.ref it) (.ref acc) (cEnv piS L gl cl q f co fr bi)) R ⟨h, g, dr, tk, os⟩ := by
  have go : ∀ h1 tk1 Z1, Rep (KTw w) h [L, acc, it] h1 [(L, nsO #[] en), (acc, lstX #[] na), (it, liO (.ref src) (.int 0 ti))] Z1 →
      codeAny (model pw w) A (.compLoop (piE p1 p2 iter pos) 0 (.ref it) (.ref acc) (cEnv piS L gl cl q f co fr bi)) R ⟨h1, g, dr, tk1, os⟩ := by
    intro h1 tk1 Z1 D1
    refine comp_id_loop hA hsd hsz qs 0 h1 tk1 na en #[] #[] ti _ rfl (by simp) (.inl rfl) (D1.to _ rfl) ⟨D1.keep.2 _ _ hs.1 hn, hs.2⟩ hn ?_
    intro h' tk' es' en' na' v K a b c d
    exact k h' tk' es' en' na' v (D1.keep.trans K fun _ _ _ q => q) a b (by simpa using c) d
  refine start (Q := fun _ _ => True) (E := fun _ _ => True) ?_
  cases hb : w.params.followText "comprehension-iter-twice" with
  | true =>
    refine engS _ (stR_eq hb) 1 0 hA D (by kernel_rfl) ?_
    intro χ1 h1 D1
    refine againC (c := .compStart (piE p1 p2 iter pos) 0 (.ref it) (.ref acc) (cEnv piS L gl cl q f co fr bi)) (c' := .compLoop (piE p1 p2 iter pos) 0 (.ref it) (.ref acc) (cEnv piS L gl cl q f co fr bi)) (by kernel_rfl) ?_
    refine go h1 _ h1.objs.size ?_
    have e : TT D1 = [(L, nsO #[] en), (acc, lstX #[] na), (it, liO (.ref src) (.int 0 ti))] := by kernel_rfl
    rw [← e, D1.size]; exact D1
  | false =>
    refine engS _ (stR_eq hb) 1 0 hA D (by kernel_rfl) ?_
    intro χ1 h1 D1
    refine eng 4 50528256 (by exact hA) D1 (by kernel_rfl) ?_
    intro χ2 h2 D2
    refine eng2 "special-get-raises" 1 0 1 0 (by exact hA) D2 (by kernel_rfl) ?_
    intro χ3 h3 D3
    refine eng 5 12884902656 (by exact hA) D3 (by kernel_rfl) ?_
    intro χ4 h4 D4
    refine againC (c := .compStart (piE p1 p2 iter pos) 0 (.ref it) (.ref acc) (cEnv piS L gl cl q f co fr bi)) (c' := .compLoop (piE p1 p2 iter pos) 0 (.ref it) (.ref acc) (cEnv piS L gl cl q f co fr bi)) (by kernel_rfl) ?_
    refine go h4 _ h4.objs.size ?_
    have e : TT D4 = [(L, nsO #[] en), (acc, lstX #[] na), (it, liO (.ref src) (.int 0 ti))] := by kernel_rfl
    rw [← e, D4.size]; exact D4
end Mine
namespace Mine
open PySem PySem.W PySem.W.X PyProof.Rows
open PySem.Builtin
variable {w : World} {A : Around} {R : Result → Shared → Prop} {h : Heap} {g : Array GenState} {dr : Drawn} {tk : Nat} {os : OsState}
theorem Rep.eqT {kt : KT} {h₀ h : Heap} {ks : List Addr} {T T' : DT} {Z : Nat} (D : Rep kt h₀ ks h T Z) (e : T = T') : Rep kt h₀ ks h T' Z := e ▸ D
theorem args_sum2 (a b : Value) : argsOk "sum" ⟨[a, b], []⟩ := by unfold argsOk; kernel_rfl
def shiftV (f : Int) (val : Nat → Int) : Nat → Int
  | 0 => f
  | j + 1 => val j
theorem preSum_shift (f : Int) (val : Nat → Int) (n : Nat) : preSum (shiftV f val) (n + 1) = f + preSum val n := by
  induction n with
  | zero => simp [preSum, shiftV]
  | succ n ih =>
    rw [preSum, ih]
    simp only [shiftV, preSum]
    omega
def shiftP (P : Nat → Value → Prop) : Nat → Value → Prop
  | 0, _ => False
  | j + 1, v => P j v
def shiftS (St : Nat → Shared → Prop) : Nat → Shared → Prop
  | 0, _ => False
  | j + 1, s => St j s
theorem walk_shift {prog : Program} {I : Addr} {fp wr : List Addr} {G : Array GenState → Array GenState → Prop} {n : Nat} {P : Nat → Value → Prop} {St : Nat → Shared → Prop} (W : WalksS prog w A I fp wr G n P St) :
    WalksS prog w A I fp wr G (n + 1) (shiftP P) (shiftS St) where
  sub := W.sub
  grefl := W.grefl
  gtrans := W.gtrans
  frame := fun i s h' tk st => by
    cases i with
    | zero => exact st.elim
    | succ i => exact W.frame i s h' tk st
  item := fun i s Q E hi st hQ => by
    cases i with
    | zero => exact st.elim
    | succ i => exact W.item i s Q E (by omega) st fun v s' hP hst hm => hQ v s' hP hst hm
  done := fun s Q E st hQ => W.done s Q E st hQ
  self := fun i s Q E st hQ => by
    cases i with
    | zero => exact st.elim
    | succ i => exact W.self i s Q E st hQ
theorem sum2 {prog : Program} {E : Value → Shared → Prop} {Q : Value → Shared → Prop} {s : Shared} {I : Addr} {fp wr : List Addr} {G : Array GenState → Array GenState → Prop} {n : Nat} {P : Nat → Value → Prop} {St : Nat → Shared → Prop} {f : Int} {tf : Tok}
    (W : WalksS prog w A.in1 I fp wr G n P St) (hst : St 0 s) (hfp : ∀ b ∈ fp, b < s.heap.objs.size) (val : Nat → Int) (hval : ∀ i v, P i v → ∃ t, v = .int (val i) t)
    (hf0 : 0 ≤ f) (hf1 : f ≤ 1000) (hfit : ∀ j, j < n → InLong (val j) ∧ InLong (f + preSum val (j + 1)))
    (hQ : ∀ s' t', Moved wr G s s' → Q (.int (f + preSum val n) t') s') :
    wpAny (model prog w) A (call (.builtin "sum") [.ref I, .int f tf]) Q E s := by
  refine call_function_tree F.kind_sum F.plain_sum F.entry_sum (args_sum2 _ _) ?_
  unfold Builtin.«sum»
  simp only [List.length_cons, List.length_nil]
  rw [if_neg (by decide)]
  refine wpAny_bind (wpAny_of_eq (show Builtin.Builtins.bindParams "sum" ["start"] 0 ⟨[.int f tf], []⟩ = pure [some (.int f tf)] from rfl) ?_)
  refine wpAny_bind (W.self 0 s _ _ hst ?_)
  have hfl : (decide (-(2 ^ 63) ≤ f) && decide (f < 2 ^ 63)) = true := by simp; omega
  show wpAny _ _ (if (decide (-(2 ^ 63) ≤ f) && decide (f < 2 ^ 63)) = true then _ else _) _ _ _
  rw [if_pos hfl]
  refine wpAny_bind (wpAny_rule (wpAny_bind (wpAny_mkInt ?_)))
  refine wpAny_bind (wpAny_pure ?_)
  simp only [List.forIn_cons, List.forIn_nil]
  refine wpAny_bind (wpAny_bind (wpAny_bind (wpAny_isInstance (T := "int") (b := false) (typeIs_int _ _ _) PySem.sub_int_str ?_)))
  simp only [Bool.false_eq_true, if_false]
  refine wpAny_pure (wpAny_bind (wpAny_bind (wpAny_isInstance (T := "int") (b := false) (typeIs_int _ _ _) PySem.sub_int_bytes ?_)))
  simp only [Bool.false_eq_true, if_false]
  refine wpAny_pure (wpAny_bind (wpAny_bind (wpAny_isInstance (T := "int") (b := false) (typeIs_int _ _ _) PySem.sub_int_bytearray ?_)))
  simp only [Bool.false_eq_true, if_false]
  refine wpAny_pure (wpAny_pure ?_)
  refine wpAny_bind (wpAny_newObj_type ?_)
  have hSf : s.heap.objs.size ∉ fp := fun hm => Nat.lt_irrefl _ (hfp _ hm)
  refine wpAny_pure ⟨plainId_quiet F.plain_sum_loop _, codeAny_sum_loopS (walk_shift W) (shiftV f val) (fun i v hP => ?_) (fun j hj => ?_) s.heap.objs.size hSf n 1 _ s.toks 0 (by omega) (by omega)
    (W.frame 0 s _ _ hst (by first | exact Nat.le_refl _ | exact Nat.le_succ _ | omega) fun b _ o e => Heap.get?_push_of_some _ e) ?_ fun s' t' hm => ?_⟩
  · cases i with
    | zero => exact hP.elim
    | succ i => exact hval i v hP
  · cases j with
    | zero =>
      refine ⟨?_, ?_⟩
      · simp only [shiftV, InLong]; omega
      · simp only [preSum, shiftV, InLong]; omega
    | succ j =>
      have := hfit j (by omega)
      rw [preSum_shift]
      exact this
  · rw [Heap.get?_push_size _ rfl]
    simp [preSum, shiftV]
  · rw [preSum_shift]
    exact hQ s' t' (hm.drop_new (by first | exact Nat.le_refl _ | exact Nat.le_succ _ | omega))
def sz (c : Str × Str) : Int := (c.1.length : Int) + c.2.length
def lval (cs : List (Str × Str)) (j : Nat) : Int := match cs[j]? with
  | some c => sz c
  | none => 0
theorem preSum_lval (cs : List (Str × Str)) (n : Nat) : preSum (lval cs) n = ((cs.take n).map sz).sum := by
  induction n with
  | zero => simp [preSum]
  | succ n ih =>
    rw [preSum, ih, List.take_add_one]
    unfold lval
    cases cs[n]? <;> simp
def Short (cs : List (Str × Str)) : Prop := cs.length ≤ 100 ∧ ∀ c ∈ cs, c.1.length ≤ 10 ∧ c.2.length ≤ 10
theorem Short.sz {cs : List (Str × Str)} (x : Short cs) (n : Nat) : 0 ≤ ((cs.take n).map sz).sum ∧ ((cs.take n).map Mine.sz).sum ≤ 2000 := by
  have key : ∀ l : List (Str × Str), (∀ c ∈ l, c.1.length ≤ 10 ∧ c.2.length ≤ 10) → 0 ≤ (l.map Mine.sz).sum ∧ (l.map Mine.sz).sum ≤ 20 * l.length := by
    intro l
    induction l with
    | nil => intro _; simp
    | cons c l ih =>
      intro h
      have h1 := h c (.head _)
      have h2 := ih fun c hc => h c (.tail _ hc)
      simp only [List.map_cons, List.sum_cons, List.length_cons, Mine.sz]
      omega
  have h1 := key (cs.take n) fun c hc => x.2 c (List.mem_of_mem_take hc)
  have h2 := x.1
  have h3 : (cs.take n).length ≤ 100 := by simp; omega
  omega
theorem evalTo {E : Value → Shared → Prop} {Q : Value → Shared → Prop} {s : Shared} {e : PySem.Expr} {env : Env} (e' : PySem.Expr) (env' : Env) (he : e = e') (hv : env = env') (h : wpAny (model pw w) A (eval e' env') Q E s) : wpAny (model pw w) A (eval e env) Q E s := by
  subst he hv; exact h
abbrev nmLen : Str := ⟨#[95, 65, 99, 99, 117, 109, 117, 108, 97, 116, 111, 114, 46, 95, 95, 108, 101, 110, 95, 95, 46, 60, 108, 111, 99, 97, 108, 115, 62, 46]⟩
theorem len_spec {p d : Addr} {n : Nat} {hs f : Int} {tk1 tk2 : Tok} {qs : List Addr} {cs : List (Str × Str)}
    (hA : A.handled = none) (hd : A.depth + 10 < recursionLimit) (G : Gd w h) (hp : At w h (p + 182) (accO d qs n)) (hdd : At w h d (dctO hs tk1 f tk2)) (hr : Row w h qs cs) (hsh : Short cs) (hf0 : 0 ≤ f) (hf1 : f ≤ 1000) (ht : Tb h 67 63)
    (k : ∀ h' g' tk' t, Kp [63] h h' → Tb h' 67 63 → (AllBare g → AllBare g') → R (.ok (.ret (.int (f + (cs.map sz).sum) t))) ⟨h', g', dr, tk', os⟩) :
    codeAny (model pw w) A (.call (.ref 68) ⟨[.ref (p + 182)], []⟩) R ⟨h, g, dr, tk, os⟩ := by
  obtain ⟨Z, D⟩ : ∃ Z, Rep (KTw w) h [p + 182, d] h [(p + 182, accO d qs n), (d, dctO hs tk1 f tk2)] Z := ⟨_, Rep.init (T := [(p + 182, accO d qs n), (d, dctO hs tk1 f tk2)]) G (oc hp (oc hdd on)) (by
    have := ne_of_cls hp.1 hdd.1 (by kernel_rfl)
    simpa using this)⟩
  refine start (Q := fun _ _ => True) (E := fun _ _ => True) ?_
  refine eng 7 282574488338432 (by exact hA) D (by kernel_rfl) ?_
  intro χ1 h1 D1
  refine enterB 68 0 D1 (by kernel_rfl) (by omega) ?_
  refine body ?_
  refine atRet (by kernel_rfl) ?_
  refine evalTo (.Call (.Name "sum" ⟨26, 15, 26, 18⟩) [lenGen, .Attribute (.Name "self" ⟨26, 65, 26, 69⟩) "_initial_size" ⟨26, 65, 26, 83⟩] [] ⟨26, 15, 26, 84⟩) (selfEnv "sum" (adrAt χ1.T 0) nmLen (some 68) 67) (by kernel_rfl) (by kernel_rfl) ?_
  obtain ⟨L, h0, t0, eL, D2⟩ : ∃ L h0 t0, adrAt (TT D1) 0 = L ∧ Rep (KTw w) h [p + 182, d] h1 [(L, fmO #[⟨h0, .str "self" t0, .ref (p + 182)⟩] 1), (p + 182, accO d qs n), (d, dctO hs tk1 f tk2)] h1.objs.size := by
    have hL : TT D1 = [(adrAt (TT D1) 0, fmO #[⟨eHi (objAt (TT D1) 0) 0, .str "self" (eKi (objAt (TT D1) 0) 0), .ref (p + 182)⟩] 1), (p + 182, accO d qs n), (d, dctO hs tk1 f tk2)] := by kernel_rfl
    exact ⟨_, _, _, rfl, by rw [← hL, D1.size]; exact D1⟩
  rw [eL]
  clear D1 eL
  generalize tk + _ = tk1'
  have fL := D2.fresh_ 0 rfl (by
    have h1 := D2.apart' 0 1 rfl rfl rfl
    have h2 := D2.apart' 0 2 rfl rfl rfl
    simp [h1, h2])
  have K2 : Kp [] h h1 := D2.keep.only fun b hb _ o e => by
    have hb : b = p + 182 ∨ b = d := by simpa using hb
    rcases hb with rfl | rfl
    · rw [show h.get? (p + 182) = _ from hp.1] at e
      rw [← e]; exact D2.at (j := 1) rfl
    · rw [show h.get? b = _ from hdd.1] at e
      rw [← e]; exact D2.at (j := 2) rfl
  have G2 := D2.gd
  have a0 := D2.at_ 0 rfl
  have a1 := D2.at_ 1 rfl
  have a2 := D2.at_ 2 rfl
  have e63 : ∃ o, h.get? 63 = some o := ht.old.2
  have t2 : Tb h1 67 63 := ht.keeps fun b o e => K2.2 b o e (by simp)
  have s63 : slook (KTw w) 63 = none := by kernel_rfl
  have nLp := D2.apart' 0 1 rfl rfl rfl
  have nLd := D2.apart' 0 2 rfl rfl rfl
  have npd := D2.apart' 1 2 rfl rfl rfl
  have D3 := D2.to _ rfl
  clear D2
  refine wpAny_Call_NameR ?_
  refine top_eval (R := R) ?_
  intro θ
  refine eng 3 0 (by exact hA) D3 (by kernel_rfl) ?_
  intro χ4 h3 D4
  refine finQ (f := .done (.ret (.builtin "sum"))) (by kernel_rfl) ?_
  have K3 : Kp [] h1 h3 := D3.ro D4 (by kernel_rfl) rfl
  have G3 := D4.gd
  clear D4 D3
  generalize tk1' + _ = tk3
  obtain ⟨Z5, D5⟩ : ∃ Z, Rep (KTw w) h3 [L, p + 182] h3 [(L, fmO #[⟨h0, .str "self" t0, .ref (p + 182)⟩] 1), (p + 182, accO d qs n)] Z := ⟨_, Rep.init (T := [(L, fmO #[⟨h0, .str "self" t0, .ref (p + 182)⟩] 1), (p + 182, accO d qs n)]) G3 (by simp only [List.forall_mem_cons]; exact ⟨a0.kp K3 (by simp), a1.kp K3 (by simp), by simp⟩) (by simpa using nLp)⟩
  have K13 : Kp [] h h3 := K2.trans K3 fun _ _ _ q => q
  have n63 : (63 : Addr) ≠ p + 182 := by
    intro z
    have := hp.2
    obtain ⟨ps, _, ⟨_, t⟩⟩ := ht
    have z1 := hp.1
    rw [← z, t] at z1
    simp at z1
  have q63 : (63 : Addr) ∉ qs := fun hm => by
    obtain ⟨j, hj, e⟩ := List.mem_iff_getElem.mp hm
    obtain ⟨c, _, tx, ty, a⟩ := hr.get (i := j) (q := 63) (by rw [List.getElem?_eq_getElem hj, e])
    obtain ⟨ps, _, ⟨_, t⟩⟩ := ht
    have z1 := a.1
    rw [t] at z1
    simp at z1
  refine Calls.callWith_builtin rfl (Calls.evalArgs_plain (Calls.spliced_cons ?_))
  refine gen_make (P := 63) (fun j y => ∃ t, y = .int (lval cs j) t) (by exact hA) (by show A.depth + 1 < _; omega) D5 (hr.keeps fun b hb o e => K13.2 b o e (by simp)) (t2.keeps fun b o e => K3.2 b o e (by simp)) n63 s63 q63 ?_ ?_
  · intro A' E' i c tx ty h₂ g₂ dr₂ tk₂ os₂ C code m Q' hA' hc G₂ hn hx hy hQ
    have hcm := hsh.2 c (List.mem_of_getElem? hc)
    refine len_elt hA' G₂ hn hx hy (by omega) (by omega) fun h' tk' t' K => hQ _ h' tk' ⟨t', ?_⟩ K
    unfold lval
    rw [hc]
    rfl
  · intro a s₁ fp wr gn St W hst hfp haf hty G5 hwr K5 hmv
    obtain ⟨h5, g5, dr5, tk5, os5⟩ := s₁
    refine Calls.spliced_cons ?_
    obtain ⟨Z6, D6⟩ : ∃ Z, Rep (KTw w) h5 [L, p + 182, d] h5 [(L, fmO #[⟨h0, .str "self" t0, .ref (p + 182)⟩] 1), (p + 182, accO d qs n), (d, dctO hs tk1 f tk2)] Z := ⟨_, Rep.init (T := [(L, fmO #[⟨h0, .str "self" t0, .ref (p + 182)⟩] 1), (p + 182, accO d qs n), (d, dctO hs tk1 f tk2)]) G5 (by
      have n1 : L ≠ 63 := by
        intro z
        have z1 := a0.1
        rw [z] at z1
        obtain ⟨ps, _, ⟨_, t⟩⟩ := t2
        rw [t] at z1
        simp at z1
      have n3 : d ≠ 63 := by
        intro z
        have z1 := a2.1
        rw [z] at z1
        obtain ⟨ps, _, ⟨_, t⟩⟩ := t2
        rw [t] at z1
        simp at z1
      simp only [List.forall_mem_cons]
      exact ⟨(a0.kp K3 (by simp)).kp K5 (by simpa using n1), (a1.kp K3 (by simp)).kp K5 (by simpa using Ne.symm n63), (a2.kp K3 (by simp)).kp K5 (by simpa using n3), by simp⟩) (by simpa using ⟨⟨nLp, nLd⟩, npd⟩)⟩
    refine top_eval (R := R) ?_
    intro θ
    refine eng 25 287345848333610367054161673452792934426803304575009024 (by exact hA) D6 (by kernel_rfl) ?_
    intro χ7 h7 D7
    refine finQ (f := .done (.ret (.int f tk2))) (by kernel_rfl) ?_
    have K7 : Kp [] h5 h7 := D6.ro D7 (by kernel_rfl) rfl
    have hle : h5.objs.size ≤ h7.objs.size := by
      rw [D7.size, D6.size]; exact Nat.le_add_right _ _
    clear D7 D6
    generalize hT7 : tk5 + _ = tk7
    have htk : tk5 ≤ tk7 := by rw [← hT7]; exact Nat.le_add_right _ _
    refine Calls.spliced_nil ?_
    refine sum2 (WalksS.in4_1 W) (W.frame 0 _ h7 tk7 hst htk fun b hb o e => K7.2 b o e (by simp)) (fun b hb => Nat.lt_of_lt_of_le (hfp b hb) hle) (lval cs) (fun i v hv => hv) hf0 hf1 (fun j hj => ?_) fun s' t' hm => ?_
    · have q1 := hsh.sz j
      have q2 := hsh.sz (j + 1)
      rw [← preSum_lval] at q1 q2
      rw [preSum] at q2
      refine ⟨?_, ?_⟩
      · unfold InLong
        omega
      · rw [preSum]
        unfold InLong
        omega
    · have hm1 : Moved wr (GenOnlyQ gn) ⟨h5, g5, dr5, tk5, os5⟩ ⟨h7, g5, dr5, tk7, os5⟩ := ⟨fun b o _ e => K7.2 b o e (by simp), .inl rfl, rfl, rfl, htk⟩
      obtain ⟨Ks, ts, gs, rfl, rfl⟩ := hmv s' (Moved.trans (fun _ _ _ x y => x.trans y) hm1 hm)
      obtain ⟨h8, g8, dr8, tk8, os8⟩ := s'
      rw [preSum_lval, hr.length, List.take_length]
      exact k h8 g8 tk8 t' ((K13.weak (ks' := [63]) (by simp)).trans Ks fun _ _ _ q => q) ts gs
abbrev nEmpty : Str := Str.ofString "EMPTYSTRING"
abbrev strElt : PySem.Expr := .Call (.Attribute (.Name nEmpty ⟨29, 33, 29, 44⟩) "join" ⟨29, 33, 29, 49⟩) [.Tuple [.Name nFws ⟨29, 51, 29, 54⟩, .Name nPart ⟨29, 56, 29, 60⟩] 0 ⟨29, 50, 29, 61⟩] [] ⟨29, 33, 29, 62⟩
abbrev strGen : PySem.Expr := .GeneratorExp strElt [⟨.Tuple [.Name nFws ⟨29, 67, 29, 70⟩, .Name nPart ⟨29, 72, 29, 76⟩] 0 ⟨29, 67, 29, 76⟩, .Name "self" ⟨29, 80, 29, 84⟩, [], 0⟩] (genS nEmpty) ⟨29, 32, 29, 85⟩
def pie (c : Str × Str) : Str := ⟨c.1.cps ++ c.2.cps⟩
def cat (l : List Str) : Str := ⟨(l.map (·.cps.toList)).flatten.toArray⟩
def txt (cs : List (Str × Str)) : Str := cat (cs.map pie)
theorem glued_cat (l : List Str) : Txt.join (Str.ofString "") l = cat l := by
  have e0 : (Str.ofString "").cps = #[] := by decide
  have key : ∀ (l : List Str) (a : Array Nat), l.foldl (fun acc p => acc ++ (Str.ofString "").cps ++ p.cps) a = ⟨a.toList ++ (l.map (·.cps.toList)).flatten⟩ := by
    intro l
    induction l with
    | nil => intro a; simp
    | cons x l ih =>
      intro a
      rw [List.foldl_cons, ih]
      simp [e0]
  unfold Txt.join Str.glued cat
  cases l with
  | nil => rfl
  | cons x l =>
    simp only [List.drop_succ_cons, List.drop_zero, List.headD_cons]
    rw [key]
    simp
theorem pie_join (c : Str × Str) : Txt.join (Str.ofString "") [c.1, c.2] = pie c := by
  rw [glued_cat]
  simp [cat, pie]
theorem str_elt {E : Value → Shared → Prop} {Q : Value → Shared → Prop} {C : Addr} {code : Value} {q : Str} {m : Str → Option Value} {c : Str × Str} {t u : Tok}
    (hA : A.handled = none) (G : Gd w h) (hn : h.Ns C m) (hx : m nFws = some (.str c.1 t)) (hy : m nPart = some (.str c.2 u)) (hlx : c.1.length ≤ 1000) (hly : c.2.length ≤ 1000)
    (k : ∀ h' tk' t', Kp [] h h' → Q (.str (pie c) t') ⟨h', g, dr, tk', os⟩) :
    wpAny (model pw w) A (eval strElt { scope := genS nEmpty, locals := C, globals := 3, cells := [], qual := q, func := none, code, frame := some C, builtins := 0 }) Q E ⟨h, g, dr, tk, os⟩ := by
  refine PySem.Call_method1 (by rfl) (by rfl) (by rfl) ?_
  obtain ⟨Z, D⟩ : ∃ Z, Rep (KTw w) h [] h [] Z := ⟨_, Rep.init (T := []) G (by simp) (by simp)⟩
  refine top_eval (R := fun _ _ => True) ?_
  intro θ
  refine eng 2 0 (by exact hA) D (by kernel_rfl) ?_
  intro χ1 h1 D1
  refine finStr (Str.ofString "") (by kernel_rfl) (by kernel_rfl) ?_
  intro v
  refine ⟨"str", _, F.plainAttrs_str, F.slot_str_join, F.type_str_join, typeIs_str _ _ _, (fun _ e => nomatch e), ?_⟩
  refine Calls.callWith_builtin rfl (Calls.evalArgs_plain (Calls.spliced_cons ?_))
  have K1 := D1.keep
  clear D1 D
  generalize tk + _ = tk1
  have hnn := hn.keeps (fun b o e => K1.2 b o e (by simp))
  refine wpAny_Tuple ?_
  show wpAny _ _ (spliced [(false, _), (false, _)]) _ _ _
  refine Calls.spliced_cons ?_
  refine wpAny_Name ?_
  refine wpAny_loadName_local rfl (by rfl) hnn hx ?_
  refine Calls.spliced_cons ?_
  refine wpAny_Name ?_
  refine wpAny_loadName_local rfl (by rfl) hnn hy ?_
  refine Calls.spliced_nil ⟨(by show 2 ≤ sizeLine; decide), Calls.spliced_nil ?_⟩
  refine join_tuple (ys := [c.1, c.2]) ⟨_, Heap.get?_push_size _ rfl, rfl, 0, rfl⟩ (.cons _ _ (.cons _ _ .nil)) ?_ ?_
  · have e : (Str.ofString "").length = 0 := by decide
    simp [e]
    omega
  · intro t' k'
    rw [pie_join]
    exact k _ _ _ (K1.push _)
def pval (cs : List (Str × Str)) (j : Nat) : Str := match cs[j]? with
  | some c => pie c
  | none => Str.ofString ""
theorem Short.pies {cs : List (Str × Str)} (x : Short cs) : ((cs.map pie).map (·.length)).sum ≤ 2000 := by
  have key : ∀ l : List (Str × Str), (∀ c ∈ l, c.1.length ≤ 10 ∧ c.2.length ≤ 10) → ((l.map pie).map (·.length)).sum ≤ 20 * l.length := by
    intro l
    induction l with
    | nil => intro _; simp
    | cons c l ih =>
      intro h
      have h1 := h c (.head _)
      have h2 := ih fun c hc => h c (.tail _ hc)
      have h3 : (pie c).length = c.1.length + c.2.length := by simp [pie, Str.length]
      simp only [List.map_cons, List.sum_cons, List.length_cons, h3]
      omega
  have h1 := key cs x.2
  have h2 := x.1
  omega
abbrev nmStr : Str := ⟨#[95, 65, 99, 99, 117, 109, 117, 108, 97, 116, 111, 114, 46, 95, 95, 115, 116, 114, 95, 95, 46, 60, 108, 111, 99, 97, 108, 115, 62, 46]⟩
theorem str_spec {p d : Addr} {n : Nat} {hs f : Int} {tk1 tk2 : Tok} {qs : List Addr} {cs : List (Str × Str)}
    (hA : A.handled = none) (hd : A.depth + 10 < recursionLimit) (G : Gd w h) (hp : At w h (p + 182) (accO d qs n)) (hdd : At w h d (dctO hs tk1 f tk2)) (hr : Row w h qs cs) (hsh : Short cs) (ht : Tb h 74 70)
    (k : ∀ h' g' tk' t, Kp [70] h h' → Tb h' 74 70 → (AllBare g → AllBare g') → R (.ok (.ret (.str (txt cs) t))) ⟨h', g', dr, tk', os⟩) :
    codeAny (model pw w) A (.call (.ref 75) ⟨[.ref (p + 182)], []⟩) R ⟨h, g, dr, tk, os⟩ := by
  obtain ⟨Z, D⟩ : ∃ Z, Rep (KTw w) h [p + 182, d] h [(p + 182, accO d qs n), (d, dctO hs tk1 f tk2)] Z := ⟨_, Rep.init (T := [(p + 182, accO d qs n), (d, dctO hs tk1 f tk2)]) G (oc hp (oc hdd on)) (by
    have := ne_of_cls hp.1 hdd.1 (by kernel_rfl)
    simpa using this)⟩
  refine start (Q := fun _ _ => True) (E := fun _ _ => True) ?_
  refine eng 7 282574488338432 (by exact hA) D (by kernel_rfl) ?_
  intro χ1 h1 D1
  refine enterB 75 0 D1 (by kernel_rfl) (by omega) ?_
  refine body ?_
  refine atRet (by kernel_rfl) ?_
  refine evalTo (.Call (.Attribute (.Name nEmpty ⟨29, 15, 29, 26⟩) "join" ⟨29, 15, 29, 31⟩) [strGen] [] ⟨29, 15, 29, 86⟩) (selfEnv nEmpty (adrAt χ1.T 0) nmStr (some 75) 74) (by kernel_rfl) (by kernel_rfl) ?_
  obtain ⟨L, h0, t0, eL, D2⟩ : ∃ L h0 t0, adrAt (TT D1) 0 = L ∧ Rep (KTw w) h [p + 182, d] h1 [(L, fmO #[⟨h0, .str "self" t0, .ref (p + 182)⟩] 1), (p + 182, accO d qs n), (d, dctO hs tk1 f tk2)] h1.objs.size := by
    have hL : TT D1 = [(adrAt (TT D1) 0, fmO #[⟨eHi (objAt (TT D1) 0) 0, .str "self" (eKi (objAt (TT D1) 0) 0), .ref (p + 182)⟩] 1), (p + 182, accO d qs n), (d, dctO hs tk1 f tk2)] := by kernel_rfl
    exact ⟨_, _, _, rfl, by rw [← hL, D1.size]; exact D1⟩
  rw [eL]
  clear D1 eL
  generalize tk + _ = tk1'
  have fL := D2.fresh_ 0 rfl (by
    have h1 := D2.apart' 0 1 rfl rfl rfl
    have h2 := D2.apart' 0 2 rfl rfl rfl
    simp [h1, h2])
  have K2 : Kp [] h h1 := D2.keep.only fun b hb _ o e => by
    have hb : b = p + 182 ∨ b = d := by simpa using hb
    rcases hb with rfl | rfl
    · rw [show h.get? (p + 182) = _ from hp.1] at e
      rw [← e]; exact D2.at (j := 1) rfl
    · rw [show h.get? b = _ from hdd.1] at e
      rw [← e]; exact D2.at (j := 2) rfl
  have G2 := D2.gd
  have a0 := D2.at_ 0 rfl
  have a1 := D2.at_ 1 rfl
  have a2 := D2.at_ 2 rfl
  have e63 : ∃ o, h.get? 70 = some o := ht.old.2
  have t2 : Tb h1 74 70 := ht.keeps fun b o e => K2.2 b o e (by simp)
  have s63 : slook (KTw w) 70 = none := by kernel_rfl
  have nLp := D2.apart' 0 1 rfl rfl rfl
  have nLd := D2.apart' 0 2 rfl rfl rfl
  have npd := D2.apart' 1 2 rfl rfl rfl
  have D3 := D2.to _ rfl
  clear D2
  refine PySem.Call_method1 (by rfl) (by rfl) (by rfl) ?_
  refine top_eval (R := R) ?_
  intro θ
  refine eng 2 0 (by exact hA) D3 (by kernel_rfl) ?_
  intro χ4 h3 D4
  refine finStr (Str.ofString "") (by kernel_rfl) (by kernel_rfl) ?_
  intro v
  refine ⟨"str", _, F.plainAttrs_str, F.slot_str_join, F.type_str_join, typeIs_str _ _ _, (fun _ e => nomatch e), ?_⟩
  have K3 : Kp [] h1 h3 := D3.ro D4 (by kernel_rfl) rfl
  have G3 := D4.gd
  clear D4 D3
  generalize tk1' + _ = tk3
  obtain ⟨Z5, D5⟩ : ∃ Z, Rep (KTw w) h3 [L, p + 182] h3 [(L, fmO #[⟨h0, .str "self" t0, .ref (p + 182)⟩] 1), (p + 182, accO d qs n)] Z := ⟨_, Rep.init (T := [(L, fmO #[⟨h0, .str "self" t0, .ref (p + 182)⟩] 1), (p + 182, accO d qs n)]) G3 (by simp only [List.forall_mem_cons]; exact ⟨a0.kp K3 (by simp), a1.kp K3 (by simp), by simp⟩) (by simpa using nLp)⟩
  have K13 : Kp [] h h3 := K2.trans K3 fun _ _ _ q => q
  have n63 : (70 : Addr) ≠ p + 182 := by
    intro z
    have := hp.2
    obtain ⟨ps, _, ⟨_, t⟩⟩ := ht
    have z1 := hp.1
    rw [← z, t] at z1
    simp at z1
  have q63 : (70 : Addr) ∉ qs := fun hm => by
    obtain ⟨j, hj, e⟩ := List.mem_iff_getElem.mp hm
    obtain ⟨c, _, tx, ty, a⟩ := hr.get (i := j) (q := 70) (by rw [List.getElem?_eq_getElem hj, e])
    obtain ⟨ps, _, ⟨_, t⟩⟩ := ht
    have z1 := a.1
    rw [t] at z1
    simp at z1
  refine Calls.callWith_builtin rfl (Calls.evalArgs_plain (Calls.spliced_cons ?_))
  refine gen_make (P := 70) (fun j y => ∃ t, y = .str (pval cs j) t) (by exact hA) (by show A.depth + 1 < _; omega) D5 (hr.keeps fun b hb o e => K13.2 b o e (by simp)) (t2.keeps fun b o e => K3.2 b o e (by simp)) n63 s63 q63 ?_ ?_
  · intro A' E' i c tx ty h₂ g₂ dr₂ tk₂ os₂ C code m Q' hA' hc G₂ hn hx hy hQ
    have hcm := hsh.2 c (List.mem_of_getElem? hc)
    refine str_elt hA' G₂ hn hx hy (by omega) (by omega) fun h' tk' t' K => hQ _ h' tk' ⟨t', ?_⟩ K
    unfold pval
    rw [hc]
  · intro a s₁ fp wr gn St W hst hfp haf hty G5 hwr K5 hmv
    refine Calls.spliced_nil ?_
    refine SC.joinGen (WalksS.in4_2 W) hty hst hfp haf (fun i v hv => ⟨_, hv.choose, hv.choose_spec⟩) (fun s' l hm hl => ?_) ?_
    · have el : l.map (·.1) = cs.map pie := by
        obtain ⟨h1, h2⟩ := hl
        have h1 : l.length = qs.length := by simpa [strValues] using h1
        refine List.ext_getElem? fun j => ?_
        simp only [List.getElem?_map]
        cases hj : l[j]? with
        | none =>
          have := List.getElem?_eq_none_iff.mp hj
          have : cs[j]? = none := List.getElem?_eq_none (by have := hr.length; omega)
          rw [this]; rfl
        | some x =>
          obtain ⟨t, e⟩ := h2 j (.str x.1 x.2) (by simp [strValues, hj])
          have hlt : j < cs.length := by
            have := (List.getElem?_eq_some_iff.mp hj).1
            have := hr.length
            omega
          unfold pval at e
          rw [List.getElem?_eq_getElem hlt] at e ⊢
          injection e with e1 _
          simp only [Option.map_some, e1]
      rw [el]
      refine ⟨joinOk_of ?_, fun t' k' => ?_⟩
      · have e : (Str.ofString "").length = 0 := by decide
        rw [e]
        have := hsh.pies
        omega
      · rw [glued_cat]
        obtain ⟨Ks, ts, gs, rfl, rfl⟩ := hmv s' hm
        obtain ⟨h8, g8, dr8, tk8, os8⟩ := s'
        exact k h8 g8 k' t' ((K13.weak (ks' := [70]) (by simp)).trans Ks fun _ _ _ q => q) ts gs
    · have := hsh.1
      have := hr.length
      show qs.length ≤ 2 ^ 24
      omega
end Mine
namespace Mine
open PySem PySem.W PySem.W.X PyProof.Rows
variable {w : World} {A : Around} {R : Result → Shared → Prop} {h : Heap} {g : Array GenState} {dr : Drawn} {tk : Nat} {os : OsState}
def caO : Expr → Expr
  | .Call (.Attribute o _ _) _ _ _ => o
  | _ => noE
def caN : Expr → Str
  | .Call (.Attribute _ n _) _ _ _ => n
  | _ => ⟨#[]⟩
def caA : Expr → Pos
  | .Call (.Attribute _ _ p) _ _ _ => p
  | _ => default
def caP : Expr → Pos
  | .Call _ _ _ p => p
  | _ => default
def naP : Expr → Pos
  | .Name _ p => p
  | _ => default
def caF : Expr → Expr
  | .Call f _ _ _ => f
  | _ => noE
section
variable {w : World} {A : Around} {E : Value → Shared → Prop} {s : Shared} {env : Env}
theorem atRet' {c : Code} {b : List Stmt} {Q : Flow → Shared → Prop} (e : b = .Return (some (retE b)) (retP b) :: b.tail) (h : PySem.wpAt (model pw w) A c (eval (retE b) env) (fun v => Q (.ret v)) E s) : PySem.wpAt (model pw w) A c (execs b env) Q E s := by
  rw [e]
  exact ks_wpAt_execs_cons (ks_wpAt_Return_some h)
def fldOf (o : Obj) : Array Value := match o.data with
  | .fields v => v
  | _ => #[]
def vS (v : Option Value) : Str := match v with
  | some (.str x _) => x
  | _ => ⟨#[]⟩
def vT (v : Option Value) : Tok := match v with
  | some (.str _ t) => t
  | _ => 0
def cofA (v : Value) : Addr := match v with
  | .ref a => a
  | _ => 0
abbrev supE (x : Expr) : Expr := .Call (.Name "super" (naP (caF (caO x)))) [] [] (caP (caO x))
theorem atSup {x : Expr} {c : Code} {Q : Value → Shared → Prop} (ex : x = .Call (.Attribute (.Call (.Name "super" (naP (caF (caO x)))) [] [] (caP (caO x))) (caN x) (caA x)) [] [] (caP x))
    (he : eval (.Call (.Attribute (supE x) (caN x) (caA x)) [] [] (caP x)) env = (do
      let ov ← attributeBase (supE x) (caN x) env (eval (supE x) env)
      standAt (caA x).atName
      let (f, first) ← holding [ov] (getMethod ov (caN x) (do return (← importBound (supE x) env).getD true))
      callWith (caP x) f first (backTo (caP x) (starEach [] env)) []))
    (h : PySem.wpAt (model pw w) A c (attributeBase (supE x) (caN x) env (eval (supE x) env))
      (fun ov s₁ => wpAny (model pw w) A (do
        standAt (caA x).atName
        let (f, first) ← holding [ov] (getMethod ov (caN x) (do return (← importBound (supE x) env).getD true))
        callWith (caP x) f first (backTo (caP x) (starEach [] env)) []) Q E s₁) E s) :
    PySem.wpAt (model pw w) A c (eval x env) Q E s := by
  rw [ex]
  rw [he]
  exact PySem.wpAt_bind (PySem.wpAt_mono h (fun ov s₁ h₁ => PySem.wpAt_of_wpAny h₁) fun _ _ x => x)
end
theorem pc_spec {p d : Addr} {qs : List Addr} {n : Nat}
    (hA : A.handled = none) (hd : A.depth + 1 < recursionLimit) (G : Gd w h) (hp : At w h (p + 182) (accO d qs n))
    (k : ∀ h' tk' t, Kp [] h h' → R (.ok (.ret (.int qs.length t))) ⟨h', g, dr, tk', os⟩) :
    codeAny (model pw w) A (.call (.ref 98) ⟨[.ref (p + 182)], []⟩) R ⟨h, g, dr, tk, os⟩ := by
  obtain ⟨Z, D⟩ : ∃ Z, Rep (KTw w) h [p + 182] h [(p + 182, accO d qs n)] Z := ⟨_, Rep.init (T := [(p + 182, accO d qs n)]) G (by simpa using hp) (by simp)⟩
  refine start (Q := fun _ _ => True) (E := fun _ _ => True) ?_
  refine eng 7 282574488338432 (by exact hA) D (by kernel_rfl) ?_
  intro χ1 h1 D1
  refine enterB 98 0 D1 (by kernel_rfl) (by omega) ?_
  refine ks_codeAny_funcAt ?_
  refine atRet' (by kernel_rfl) ?_
  refine atSup (by kernel_rfl) (by kernel_rfl) ?_
  refine ks_wpAt_super_base (env := envAt 98 (fdOf (slook (KTw w) 98)) (adrAt χ1.T 0)) (f := 98) (of := unO (slook (KTw w) 98)) (fd := fdOf (slook (KTw w) 98)) (ar := (fdOf (slook (KTw w) 98)).params.args.headD default)
     (cc := cofA (fdOf (slook (KTw w) 98)).code) (oc := unO (slook (KTw w) (cofA (fdOf (slook (KTw w) 98)).code))) (vs := fldOf (unO (slook (KTw w) (cofA (fdOf (slook (KTw w) 98)).code)))) (tf := vT (fldOf (unO (slook (KTw w) (cofA (fdOf (slook (KTw w) 98)).code))))[2]?) (file := vS (fldOf (unO (slook (KTw w) (cofA (fdOf (slook (KTw w) 98)).code))))[2]?) (by kernel_rfl) (by kernel_rfl) (by kernel_rfl) (by kernel_rfl) (D1.st _ _ (by kernel_rfl)) (by kernel_rfl) (by kernel_rfl) (by kernel_rfl) (D1.st _ _ (by kernel_rfl)) (by kernel_rfl) (by kernel_rfl) (by kernel_rfl) (by kernel_rfl) ?_
  refine top_any (R := R) (fun v => .done (.ret v)) ?_
  intro θ
  refine eng 2 0 (by exact hA) D1 (by kernel_rfl) ?_
  intro χ2 h2 D2
  refine finQ (f := .done (.ret (.type "super"))) (by kernel_rfl) ?_
  intro a ha; cases ha
  refine ⟨rfl, ?_⟩
  refine top_any (R := R) (fun v => .done (.ret v)) ?_
  intro θ
  refine eng 1 0 (by exact hA) D2 (by kernel_rfl) ?_
  intro χ3 h3 D3
  refine finQ (f := .done (.ret (.ref 101))) (by kernel_rfl) ?_
  intro a ha; cases ha
  refine top_any (R := R) (fun v => .done (.ret v)) ?_
  intro θ
  refine eng 1 1 (by exact hA) D3 (by kernel_rfl) ?_
  intro χ4 h4 D4
  refine finQ (f := .done (.ret (.ref (p + 182)))) (by kernel_rfl) ?_
  intro a ha; cases ha
  refine top_any (R := R) (fun v => .done (.ret (.bool v))) ?_
  intro θ
  refine eng 1 0 (by exact hA) D4 (by kernel_rfl) ?_
  intro χ5 h5 D5
  refine finQ (f := .done (.ret (.bool true))) (by kernel_rfl) ?_
  intro a ha; cases ha
  refine ⟨rfl, ?_⟩
  refine top_any (R := R) (fun v => .done (.ret v)) ?_
  intro θ
  refine eng 24 375611652173010656284913367422150316070073794560000 (by exact hA) D5 (by kernel_rfl) ?_
  intro χ6 h6 D6
  refine finQ (f := .done (.ret (.ref (adrAt χ6.T 0)))) (by kernel_rfl) ?_
  intro a ha; cases ha
  refine top_any (R := R) (fun v => .done (.ret v)) ?_
  intro θ
  refine eng 28 25108502723979528810727723584614123000673451845833115828480 (by exact hA) D6 (by kernel_rfl) ?_
  intro χ7 h7 D7
  refine finInt (((qs.map Value.ref).toArray.size : Nat) : Int) (by kernel_rfl) (by kernel_rfl) ?_
  intro u a ha; cases ha
  have K : Kp [] h h7 := D7.keep.only (by
    intro a ha _ o e
    have ha : a = p + 182 := by simpa using ha
    subst ha
    have := D.at (j := 0) rfl
    rw [show h.get? (p + 182) = _ from this] at e
    rw [← e]
    exact D7.at (j := 3) (x := (p + 182, accO d qs n)) (by kernel_rfl))
  have e : (((qs.map Value.ref).toArray.size : Nat) : Int) = qs.length := by simp
  rw [e]
  exact k h7 _ u K
end Mine
namespace Mine
open PySem PySem.W PySem.W.X PyProof.Rows
open PySem.Builtin PySem.Builtin.Str
variable {w : World} {A : Around} {R : Result → Shared → Prop} {h : Heap} {g : Array GenState} {dr : Drawn} {tk : Nat} {os : OsState}
structure Tbs (h : Heap) : Prop where
  a : Tb h 67 63
  b : Tb h 74 70
theorem Tbs.kp0 {h h' : Heap} (x : Tbs h) (K : Kp [] h h') : Tbs h' := ⟨x.a.keeps fun b o e => K.2 b o e (by simp), x.b.keeps fun b o e => K.2 b o e (by simp)⟩
theorem tab_obj {c P : Addr} (x : Tb h c P) : ∃ ps, h.get? P = some (tableObj ps) := let ⟨ps, _, t⟩ := x; ⟨ps, t.2⟩
theorem Tbs.none : slook (KTw w) 63 = none ∧ slook (KTw w) 70 = none := ⟨by kernel_rfl, by kernel_rfl⟩
def noneO (o : Obj) : Bool := match o.cls with
  | .none => true
  | _ => false
theorem Tbs.ne (x : Tbs h) {a : Addr} {o : Obj} (e : h.get? a = some o) (ho : noneO o = false) : a ≠ 63 ∧ a ≠ 70 := by
  obtain ⟨p1, t1⟩ := tab_obj x.a
  obtain ⟨p2, t2⟩ := tab_obj x.b
  refine ⟨?_, ?_⟩
  · rintro rfl
    rw [t1] at e; cases e; cases ho
  · rintro rfl
    rw [t2] at e; cases e; cases ho
theorem At.tb {h h' : Heap} {a : Addr} {o : Obj} (x : At w h a o) (t : Tbs h) (K : Kp [63, 70] h h') (ho : noneO o = false) : At w h' a o :=
  x.kp K (by have := t.ne x.1 ho; simp [this.1, this.2])
theorem Row.tb {h h' : Heap} {qs : List Addr} {cs : List (Str × Str)} (x : Row w h qs cs) (t : Tbs h) (K : Kp [63, 70] h h') : Row w h' qs cs := by
  induction x with
  | nil => exact .nil
  | cons a _ ih =>
    obtain ⟨tx, ty, a⟩ := a
    exact .cons ⟨tx, ty, a.tb t K rfl⟩ ih
def iS (v : Option Value) : Int := match v with
  | some (.int x _) => x
  | _ => 0
def iT (v : Option Value) : Tok := match v with
  | some (.int _ t) => t
  | _ => 0
def bS (v : Option Value) : Bool := match v with
  | some (.bool x) => x
  | _ => false
theorem Row.kp0 {h h' : Heap} {qs : List Addr} {cs : List (Str × Str)} (x : Row w h qs cs) (K : Kp [] h h') : Row w h' qs cs := x.keeps fun b hb o e => K.2 b o e (by simp)
def TbA (w : World) (h : Heap) (P : Addr) (ps : Array Value) : Prop := At w h P (tableObj ps) ∧ TriplesOk ps.toList
theorem TbA.tb63 {ps : Array Value} (G : Gd w h) (x : TbA w h 63 ps) : Tb h 67 63 :=
  ⟨ps, ⟨unO (slook (KTw w) 67), fldOf (unO (slook (KTw w) 67)), vS ((fldOf (unO (slook (KTw w) 67)))[18]?), vT ((fldOf (unO (slook (KTw w) 67)))[18]?), iS ((fldOf (unO (slook (KTw w) 67)))[7]?), iT ((fldOf (unO (slook (KTw w) 67)))[7]?), bS ((fldOf (unO (slook (KTw w) 67)))[9]?), iS ((fldOf (unO (slook (KTw w) 67)))[10]?), iT ((fldOf (unO (slook (KTw w) 67)))[10]?), tableObj ps,
    G _ _ (by kernel_rfl), by kernel_rfl, by kernel_rfl, by kernel_rfl, by kernel_rfl, by kernel_rfl, by kernel_rfl, x.1.1, rfl, x.2, by decide⟩, ⟨unO (slook (KTw w) 67), fldOf (unO (slook (KTw w) 67)), G _ _ (by kernel_rfl), by kernel_rfl, by kernel_rfl, by kernel_rfl⟩, x.1.1⟩
theorem TbA.tb70 {ps : Array Value} (G : Gd w h) (x : TbA w h 70 ps) : Tb h 74 70 :=
  ⟨ps, ⟨unO (slook (KTw w) 74), fldOf (unO (slook (KTw w) 74)), vS ((fldOf (unO (slook (KTw w) 74)))[18]?), vT ((fldOf (unO (slook (KTw w) 74)))[18]?), iS ((fldOf (unO (slook (KTw w) 74)))[7]?), iT ((fldOf (unO (slook (KTw w) 74)))[7]?), bS ((fldOf (unO (slook (KTw w) 74)))[9]?), iS ((fldOf (unO (slook (KTw w) 74)))[10]?), iT ((fldOf (unO (slook (KTw w) 74)))[10]?), tableObj ps,
    G _ _ (by kernel_rfl), by kernel_rfl, by kernel_rfl, by kernel_rfl, by kernel_rfl, by kernel_rfl, by kernel_rfl, x.1.1, rfl, x.2, by decide⟩, ⟨unO (slook (KTw w) 74), fldOf (unO (slook (KTw w) 74)), G _ _ (by kernel_rfl), by kernel_rfl, by kernel_rfl, by kernel_rfl⟩, x.1.1⟩
theorem Tb.tbA {c P : Addr} (x : Tb h c P) (hP : slook (KTw w) P = none) : ∃ ps, TbA w h P ps := by
  obtain ⟨ps, ⟨o, vs, file, tf, flags, tg, inF, text, tt, op, a, r1, r2, r3, r4, r5, r6, b, r7, r8, r9⟩, _, t⟩ := x
  rw [t] at b
  cases b
  cases r7
  exact ⟨ps, ⟨t, hP⟩, r8⟩
theorem Rep.initB {T : DT} {ps1 ps2 : Array Value} (T0 : DT) (G : Gd w h) (own : ∀ p ∈ T0, At w h p.1 p.2) (nd : (T0.map (·.1)).Nodup) (hc : T0.all (fun p => !(noneO p.2)) = true) (t1 : TbA w h 63 ps1) (t2 : TbA w h 70 ps2)
    (e : T = T0 ++ [(63, tableObj ps1), (70, tableObj ps2)]) : ∃ Z, Rep (KTw w) h (T.map (·.1)) h T Z := by
  have hn : ∀ p ∈ T0, p.1 ≠ 63 ∧ p.1 ≠ 70 := fun p hp => by
    have h1 := List.all_eq_true.mp hc p hp
    have h1 : noneO p.2 = false := by simpa using h1
    have h2 := (own p hp).1
    refine ⟨fun q => ?_, fun q => ?_⟩
    · rw [q, t1.1.1] at h2; rw [← Option.some.inj h2] at h1; cases h1
    · rw [q, t2.1.1] at h2; rw [← Option.some.inj h2] at h1; cases h1
  have own' : ∀ p ∈ T, At w h p.1 p.2 := fun p hp => by
    rw [e] at hp
    rcases List.mem_append.mp hp with hp | hp
    · exact own p hp
    · rcases List.mem_cons.mp hp with rfl | hp
      · exact t1.1
      · rcases List.mem_cons.mp hp with rfl | hp
        · exact t2.1
        · cases hp
  refine ⟨_, Rep.init G own' ?_⟩
  rw [e, List.map_append, List.nodup_append]
  refine ⟨nd, by simp, fun a ha b hb => ?_⟩
  obtain ⟨p, hp, rfl⟩ := List.mem_map.mp ha
  have hb : b = 63 ∨ b = 70 := by simpa using hb
  rcases hb with rfl | rfl
  · exact (hn p hp).1
  · exact (hn p hp).2
theorem strnew_spec {p d : Addr} {n : Nat} {hs f : Int} {tk1 tk2 : Tok} {qs : List Addr} {cs : List (Str × Str)}
    (hA : A.handled = none) (hd : A.depth + 10 < recursionLimit) (hu : A.units + 10 < cLine) (G : Gd w h) (hp : At w h (p + 182) (accO d qs n)) (hdd : At w h d (dctO hs tk1 f tk2)) (hr : Row w h qs cs) (hsh : Short cs) (ht : Tb h 74 70)
    (k : ∀ h' g' tk' t, Kp [70] h h' → Tb h' 74 70 → (AllBare g → AllBare g') → R (.ok (.ret (.str (txt cs) t))) ⟨h', g', dr, tk', os⟩) :
    codeAny (model pw w) A (.call (.builtin "str.__new__") ⟨[.type "str", .ref (p + 182)], []⟩) R ⟨h, g, dr, tk, os⟩ := by
  obtain ⟨Z, D⟩ : ∃ Z, Rep (KTw w) h [p + 182, d] h [(p + 182, accO d qs n), (d, dctO hs tk1 f tk2)] Z := ⟨_, Rep.init (T := [(p + 182, accO d qs n), (d, dctO hs tk1 f tk2)]) G (oc hp (oc hdd on)) (by
    have := ne_of_cls hp.1 hdd.1 (by kernel_rfl)
    simpa using this)⟩
  refine codeAny_call_builtin_at (b := Builtin.«str.__new__») (by kernel_rfl) (entryFor_of_tree (by kernel_rfl)) ?_
  refine top_any (R := R) (fun _ => .done .next) ?_
  intro θ
  refine eng 0 0 (by exact hA) D (by kernel_rfl) ?_
  intro χ1 h1 D1
  refine finQ (f := .done .next) (by kernel_rfl) ?_
  intro _ _
  rw [str_new_tree]
  refine wpAny_bind (wpAny_pure ?_)
  refine wpAny_bind (wpAny_of_eq isSubtype_str_str ?_)
  refine wpAny_bind ?_
  unfold PySem.Builtin.Str.strOf
  rw [show isExactStr (.ref (p + 182)) = false from rfl, if_neg Bool.false_ne_true]
  refine wpAny_bind (wpAny_cRoomFor (by show A.units + 1 < _; omega) ?_)
  refine wpAny_bind ?_
  refine top_any (R := R) (fun v => match v with | some v => .done (.ret v) | none => .done .next) ?_
  intro θ
  refine eng 5 1 (by exact hA) D1 (by kernel_rfl) ?_
  intro χ2 h2 D2
  refine hook (c' := .call (.ref 75) ⟨[.ref (p + 182)], []⟩) (by kernel_rfl) ?_
  have K2 : Kp [] h h2 := D.ro D2 (by kernel_rfl) rfl
  refine str_spec (d := d) (n := n) (hs := hs) (f := f) (tk1 := tk1) (tk2 := tk2) (qs := qs) (cs := cs) (by exact hA) (by show A.depth + 10 < _; omega) D2.gd (D2.at_ 0 (by kernel_rfl)) (D2.at_ 1 (by kernel_rfl)) (hr.keeps fun b hb o e => K2.2 b o e (by simp)) hsh (ht.keeps fun b o e => K2.2 b o e (by simp)) ?_
  intro h3 g3 tk3 t K3 t3 gs
  refine finQ (f := .done (.ret (.str (txt cs) t))) (by kernel_rfl) ?_
  intro a ha
  cases a with
  | none => cases ha
  | some v =>
    cases ha
    refine wpAny_bind (wpAny_pure ?_)
    rw [if_neg (by simp)]
    refine wpAny_pure (wpAny_pure ?_)
    exact k h3 g3 tk3 t ((K2.weak (ks' := [70]) (by simp)).trans K3 fun _ _ _ q => q) t3 gs
theorem lenb_spec {p d : Addr} {n : Nat} {hs f : Int} {tk1 tk2 : Tok} {qs : List Addr} {cs : List (Str × Str)}
    (hA : A.handled = none) (hd : A.depth + 10 < recursionLimit) (G : Gd w h) (hp : At w h (p + 182) (accO d qs n)) (hdd : At w h d (dctO hs tk1 f tk2)) (hr : Row w h qs cs) (hsh : Short cs) (hf0 : 0 ≤ f) (hf1 : f ≤ 1000) (ht : Tb h 67 63)
    (k : ∀ h' g' tk' t, Kp [63] h h' → Tb h' 67 63 → (AllBare g → AllBare g') → R (.ok (.ret (.int (f + (cs.map sz).sum) t))) ⟨h', g', dr, tk', os⟩) :
    codeAny (model pw w) A (.builtin "len" ⟨[.ref (p + 182)], []⟩) R ⟨h, g, dr, tk, os⟩ := by
  obtain ⟨Z, D⟩ : ∃ Z, Rep (KTw w) h [p + 182, d] h [(p + 182, accO d qs n), (d, dctO hs tk1 f tk2)] Z := ⟨_, Rep.init (T := [(p + 182, accO d qs n), (d, dctO hs tk1 f tk2)]) G (oc hp (oc hdd on)) (by
    have := ne_of_cls hp.1 hdd.1 (by kernel_rfl)
    simpa using this)⟩
  refine codeAny_builtin (b := Builtin.«len») (entryFor_of_tree (by kernel_rfl)) ?_
  unfold Builtin.«len»
  refine wpAny_bind (m := oneArg "len" _) (wpAny_pure ?_)
  refine wpAny_bind ?_
  refine top_any (R := R) (fun v => match v with | some v => .done (.ret v) | none => .done .next) ?_
  intro θ
  refine eng 5 1 (by exact hA) D (by kernel_rfl) ?_
  intro χ2 h2 D2
  have K2 : Kp [] h h2 := D.ro D2 (by kernel_rfl) rfl
  refine hook (c' := .call (.ref 68) ⟨[.ref (p + 182)], []⟩) (by kernel_rfl) ?_
  refine len_spec (d := d) (n := n) (hs := hs) (f := f) (tk1 := tk1) (tk2 := tk2) (qs := qs) (cs := cs) (by exact hA) (by show A.depth + 10 < _; omega) D2.gd (D2.at_ 0 (by kernel_rfl)) (D2.at_ 1 (by kernel_rfl)) (hr.keeps fun b hb o e => K2.2 b o e (by simp)) hsh hf0 hf1 (ht.keeps fun b o e => K2.2 b o e (by simp)) ?_
  intro h3 g3 tk3 t K3 t3 gs
  refine finQ (f := .done (.ret (.int (f + (cs.map sz).sum) t))) (by kernel_rfl) ?_
  intro a ha
  have hb := hsh.sz cs.length
  rw [List.take_length] at hb
  cases a with
  | none => cases ha
  | some v =>
    cases ha
    show wpAny _ _ (holding _ (asIndex (.int _ t)) >>= _) _ _ _
    refine wpAny_bind (wpAny_holding (wpAny_pure ?_))
    refine wpAny_bind (wpAny_letGo ?_)
    rw [if_neg (by omega), if_neg (by omega)]
    refine wpAny_bind (wpAny_mkInt (wpAny_pure ?_))
    exact k h3 g3 _ _ ((K2.weak (ks' := [63]) (by simp)).trans K3 fun _ _ _ q => q) t3 gs
theorem callB {s : Shared} {id : String} {args : Args} (hq : (Code.builtin id args).quiet = true)
    (h : wpAny (model pw w) A.in1 (checkBuiltinCall id args) (fun _ s₁ => codeAny (model pw w) A (.builtin id args) R s₁) (fun e s' => R (.error e) s') s) : codeAny (model pw w) A (.call (.builtin id) args) R s := by
  refine codeAny_of_tree ?_
  show wpAny _ A.in1 (do checkBuiltinCall id args; again (.builtin id args)) _ _ s
  exact wpAny_bind (wpAny_mono h (fun _ s₁ h₁ => wpAny_pure (And.intro hq h₁)) fun _ _ h' => h')
theorem lencall_spec {p d : Addr} {n : Nat} {hs f : Int} {tk1 tk2 : Tok} {qs : List Addr} {cs : List (Str × Str)}
    (hA : A.handled = none) (hd : A.depth + 10 < recursionLimit) (G : Gd w h) (hp : At w h (p + 182) (accO d qs n)) (hdd : At w h d (dctO hs tk1 f tk2)) (hr : Row w h qs cs) (hsh : Short cs) (hf0 : 0 ≤ f) (hf1 : f ≤ 1000) (ht : Tb h 67 63)
    (k : ∀ h' g' tk' t, Kp [63] h h' → Tb h' 67 63 → (AllBare g → AllBare g') → R (.ok (.ret (.int (f + (cs.map sz).sum) t))) ⟨h', g', dr, tk', os⟩) :
    codeAny (model pw w) A (.call (.builtin "len") ⟨[.ref (p + 182)], []⟩) R ⟨h, g, dr, tk, os⟩ := by
  refine callB (by kernel_rfl) ?_
  obtain ⟨Z, D⟩ : ∃ Z, Rep (KTw w) h [] h [] Z := ⟨_, Rep.init (T := []) G (by simp) (by simp)⟩
  refine top_any (R := R) (fun _ => .done .next) ?_
  intro θ
  refine eng 0 0 (by exact hA) D (by kernel_rfl) ?_
  intro χ1 h1 D1
  refine finQ (f := .done .next) (by kernel_rfl) ?_
  intro _ _
  have K1 := D1.keep
  refine lenb_spec hA hd D1.gd (hp.kp K1 (by simp)) (hdd.kp K1 (by simp)) (hr.keeps fun b hb o e => K1.2 b o e (by simp)) hsh hf0 hf1 (ht.keeps fun b o e => K1.2 b o e (by simp)) ?_
  intro h3 g3 tk3 t K3 t3 gs
  exact k h3 g3 tk3 t ((K1.weak (ks' := [63]) (by simp)).trans K3 fun _ _ _ q => q) t3 gs
def wsOk (x : Str) : Bool := x.cps.all Unicode.isSpace
theorem sum_txt (cs : List (Str × Str)) : (cs.map sz).sum = ((txt cs).length : Int) := by
  unfold txt cat
  induction cs with
  | nil => rfl
  | cons c cs ih =>
    simp only [List.map_cons, List.sum_cons, ih, sz, pie, Str.length]
    simp
    omega
theorem ow_spec0 {p d : Addr} {n : Nat} {hs : Int} {tk1 tk2 : Tok} {qs : List Addr} {cs : List (Str × Str)} {ps1 ps2 : Array Value}
    (hA : A.handled = none) (hd : A.depth + 20 < recursionLimit) (hu : A.units + 100 < cLine) (G : Gd w h) (hp : At w h (p + 182) (accO d qs n)) (hdd : At w h d (dctO hs tk1 0 tk2)) (hr : Row w h qs cs) (hsh : Short cs) (ht1 : TbA w h 63 ps1) (ht2 : TbA w h 70 ps2)
    (k : ∀ h' g' tk' ps1' ps2', Kp [63, 70] h h' → TbA w h' 63 ps1' → TbA w h' 70 ps2' → (AllBare g → AllBare g') → R (.ok (.ret (.bool (wsOk (txt cs))))) ⟨h', g', dr, tk', os⟩) :
    codeAny (model pw w) A (.call (.ref 90) ⟨[.ref (p + 182)], []⟩) R ⟨h, g, dr, tk, os⟩ := by
  obtain ⟨Z, D⟩ : ∃ Z, Rep (KTw w) h [p + 182, d, 63, 70] h [(p + 182, accO d qs n), (d, dctO hs tk1 0 tk2), (63, tableObj ps1), (70, tableObj ps2)] Z := Rep.initB [(p + 182, accO d qs n), (d, dctO hs tk1 0 tk2)] G (oc hp (oc hdd on)) (by
    have := ne_of_cls hp.1 hdd.1 (by kernel_rfl)
    simpa using this) rfl ht1 ht2 rfl
  refine start (Q := fun _ _ => True) (E := fun _ _ => True) ?_
  refine eng 7 282574488338432 (by exact hA) D (by kernel_rfl) ?_
  intro χ1 h1 D1
  refine enterD 0 90 0 D1 (by kernel_rfl) (by omega) ?_
  refine eng 29 18831497516391489015261539431402237750594981368627791396864 (by exact hA) D1 (by kernel_rfl) ?_
  intro χ2 h2 D2
  refine eng2 "special-get-raises" 1 0 1 0 (by exact hA) D2 (by kernel_rfl) ?_
  intro χ3 h3 D3
  refine eng 15 618970019786806425037045760 (by exact hA) D3 (by kernel_rfl) ?_
  intro χ4 h4 D4
  have K4 : Kp [] h h4 := Rep.kpF 1 [true, true, true, true] D D4 (by kernel_rfl)
  refine hook (c' := .builtin "len" ⟨[.ref (p + 182)], []⟩) (by kernel_rfl) ?_
  refine lenb_spec (d := d) (n := n) (hs := hs) (f := 0) (tk1 := tk1) (tk2 := tk2) (qs := qs) (cs := cs) (ac_handled hA) (depL (b := A.depth) 1 (by kernel_rfl) hd rfl) D4.gd (D4.at_ 1 (by kernel_rfl)) (D4.at_ 2 (by kernel_rfl)) (hr.kp0 K4) hsh (by omega) (by omega) (TbA.tb63 D4.gd ⟨D4.at_ 3 (by kernel_rfl), ht1.2⟩) ?_
  intro h5 g5 tk5 t5 K5 q5 gs5
  obtain ⟨ps1', a5, o5⟩ := q5.tbA ht1.1.2
  refine Exists.elim ((D4.turn (j := 3) (x := (63, tableObj ps1)) (by kernel_rfl) K5 a5.1).ex) ?_
  intro Z5 D5
  rw [sum_txt]
  cases hN : (txt cs).length with
  | zero =>
    refine eng 1 0 (by exact hA) D5 (by kernel_rfl) ?_
    intro χ6 h6 D6
    refine fin (f := .ret (.bool true)) (by kernel_rfl) ?_
    have e : wsOk (txt cs) = true := by
      have : (txt cs).cps = #[] := Array.size_eq_zero_iff.mp hN
      simp [wsOk, this]
    rw [← e]
    have a1 := D6.at_ (a := 63) (o := tableObj ps1') 3 (by kernel_rfl)
    have a2 := D6.at_ (a := 70) (o := tableObj ps2) 4 (by kernel_rfl)
    exact k h6 g5 _ ps1' ps2 (Rep.kpF 1 [true, true, false, false] D D6 (by kernel_rfl)) ⟨a1, o5⟩ ⟨a2, ht2.2⟩ gs5
  | succ m =>
    have e0 : (0 : Int) + ((m + 1 : Nat) : Int) = ((m + 1 : Nat) : Int) := by omega
    rw [e0]
    refine eng 9 1099511627776 (by exact hA) D5 (by kernel_rfl) ?_
    intro χ6 h6 D6
    have K6 : Kp [63, 70] h h6 := Rep.kpF 1 [true, true, false, false] D D6 (by kernel_rfl)
    refine hook (c' := .call (.builtin "str.__new__") ⟨[.type "str", .ref (p + 182)], []⟩) (by kernel_rfl) ?_
    refine strnew_spec (d := d) (n := n) (hs := hs) (f := 0) (tk1 := tk1) (tk2 := tk2) (qs := qs) (cs := cs) (ac_handled hA) (depL (b := A.depth) 1 (by kernel_rfl) hd rfl) (depL (b := A.units) 4 (by kernel_rfl) hu rfl) D6.gd (D6.at_ 1 (by kernel_rfl)) (D6.at_ 2 (by kernel_rfl)) (hr.tb ⟨TbA.tb63 G ht1, TbA.tb70 G ht2⟩ K6) hsh (TbA.tb70 D6.gd ⟨D6.at_ 4 (by kernel_rfl), ht2.2⟩) ?_
    intro h7 g7 tk7 t7 K7 q7 gs7
    obtain ⟨ps2', a7, o7⟩ := q7.tbA ht2.1.2
    refine Exists.elim ((D6.turn (j := 4) (x := (70, tableObj ps2)) (by kernel_rfl) K7 a7.1).ex) ?_
    intro Z7 D7
    refine eng 12 0 (by exact hA) D7 (by kernel_rfl) ?_
    intro χ8 h8 D8
    refine fin (f := .ret (.bool (Txt.isspace (txt cs)))) (by kernel_rfl) ?_
    have e : Txt.isspace (txt cs) = wsOk (txt cs) := by
      simp [Txt.isspace, wsOk, hN]
    rw [e]
    have a1 := D8.at_ (a := 63) (o := tableObj ps1') 3 (by kernel_rfl)
    have a2 := D8.at_ (a := 70) (o := tableObj ps2') 4 (by kernel_rfl)
    exact k h8 g7 _ ps1' ps2' (Rep.kpF 1 [true, true, false, false] D D8 (by kernel_rfl)) ⟨a1, o5⟩ ⟨a2, o7⟩ fun x => gs7 (gs5 x)
theorem ow_spec1 {p d : Addr} {n : Nat} {hs : Int} {tk1 tk2 : Tok} {qs : List Addr}
    (hA : A.handled = none) (hd : A.depth + 20 < recursionLimit) (G : Gd w h) (hp : At w h (p + 182) (accO d qs n)) (hdd : At w h d (dctO hs tk1 1 tk2))
    (k : ∀ h' tk', Kp [] h h' → R (.ok (.ret (.bool false))) ⟨h', g, dr, tk', os⟩) :
    codeAny (model pw w) A (.call (.ref 90) ⟨[.ref (p + 182)], []⟩) R ⟨h, g, dr, tk, os⟩ := by
  obtain ⟨Z, D⟩ : ∃ Z, Rep (KTw w) h [p + 182, d] h [(p + 182, accO d qs n), (d, dctO hs tk1 1 tk2)] Z := ⟨_, Rep.init (T := [(p + 182, accO d qs n), (d, dctO hs tk1 1 tk2)]) G (oc hp (oc hdd on)) (by
    have := ne_of_cls hp.1 hdd.1 (by kernel_rfl)
    simpa using this)⟩
  refine start (Q := fun _ _ => True) (E := fun _ _ => True) ?_
  refine eng 7 282574488338432 (by exact hA) D (by kernel_rfl) ?_
  intro χ1 h1 D1
  refine enterD 0 90 0 D1 (by kernel_rfl) (by omega) ?_
  refine eng 29 18831497516391489015261539431402237750594981368627791396864 (by exact hA) D1 (by kernel_rfl) ?_
  intro χ2 h2 D2
  refine eng2 "special-get-raises" 1 0 1 0 (by exact hA) D2 (by kernel_rfl) ?_
  intro χ3 h3 D3
  refine eng 4 0 (by exact hA) D3 (by kernel_rfl) ?_
  intro χ4 h4 D4
  refine fin (f := .ret (.bool false)) (by kernel_rfl) ?_
  exact k h4 _ (Rep.kpF 1 [true, true] D D4 (by kernel_rfl))
theorem ow_spec2 {p d : Addr} {n : Nat} {hs : Int} {tk1 tk2 : Tok} {qs : List Addr}
    (hA : A.handled = none) (hd : A.depth + 20 < recursionLimit) (G : Gd w h) (hp : At w h (p + 182) (accO d qs n)) (hdd : At w h d (dctO hs tk1 2 tk2))
    (k : ∀ h' tk', Kp [] h h' → R (.ok (.ret (.bool false))) ⟨h', g, dr, tk', os⟩) :
    codeAny (model pw w) A (.call (.ref 90) ⟨[.ref (p + 182)], []⟩) R ⟨h, g, dr, tk, os⟩ := by
  obtain ⟨Z, D⟩ : ∃ Z, Rep (KTw w) h [p + 182, d] h [(p + 182, accO d qs n), (d, dctO hs tk1 2 tk2)] Z := ⟨_, Rep.init (T := [(p + 182, accO d qs n), (d, dctO hs tk1 2 tk2)]) G (oc hp (oc hdd on)) (by
    have := ne_of_cls hp.1 hdd.1 (by kernel_rfl)
    simpa using this)⟩
  refine start (Q := fun _ _ => True) (E := fun _ _ => True) ?_
  refine eng 7 282574488338432 (by exact hA) D (by kernel_rfl) ?_
  intro χ1 h1 D1
  refine enterD 0 90 0 D1 (by kernel_rfl) (by omega) ?_
  refine eng 29 18831497516391489015261539431402237750594981368627791396864 (by exact hA) D1 (by kernel_rfl) ?_
  intro χ2 h2 D2
  refine eng2 "special-get-raises" 1 0 1 0 (by exact hA) D2 (by kernel_rfl) ?_
  intro χ3 h3 D3
  refine eng 4 0 (by exact hA) D3 (by kernel_rfl) ?_
  intro χ4 h4 D4
  refine fin (f := .ret (.bool false)) (by kernel_rfl) ?_
  exact k h4 _ (Rep.kpF 1 [true, true] D D4 (by kernel_rfl))
theorem ow_spec {p d : Addr} {n : Nat} {hs f : Int} {tk1 tk2 : Tok} {qs : List Addr} {cs : List (Str × Str)} {ps1 ps2 : Array Value}
    (hA : A.handled = none) (hd : A.depth + 20 < recursionLimit) (hu : A.units + 100 < cLine) (G : Gd w h) (hp : At w h (p + 182) (accO d qs n)) (hdd : At w h d (dctO hs tk1 f tk2)) (hr : Row w h qs cs) (hsh : Short cs) (hf : f = 0 ∨ f = 1 ∨ f = 2) (ht1 : TbA w h 63 ps1) (ht2 : TbA w h 70 ps2)
    (k : ∀ h' g' tk' ps1' ps2', Kp [63, 70] h h' → TbA w h' 63 ps1' → TbA w h' 70 ps2' → (AllBare g → AllBare g') → R (.ok (.ret (.bool (f == 0 && wsOk (txt cs))))) ⟨h', g', dr, tk', os⟩) :
    codeAny (model pw w) A (.call (.ref 90) ⟨[.ref (p + 182)], []⟩) R ⟨h, g, dr, tk, os⟩ := by
  rcases hf with rfl | rfl | rfl
  · exact ow_spec0 hA hd hu G hp hdd hr hsh ht1 ht2 k
  · exact ow_spec1 hA hd G hp hdd fun h' tk' K => k h' g tk' ps1 ps2 (K.weak (by simp)) ⟨ht1.1.kp K (by simp), ht1.2⟩ ⟨ht2.1.kp K (by simp), ht2.2⟩ id
  · exact ow_spec2 hA hd G hp hdd fun h' tk' K => k h' g tk' ps1 ps2 (K.weak (by simp)) ⟨ht1.1.kp K (by simp), ht1.2⟩ ⟨ht2.1.kp K (by simp), ht2.2⟩ id
end Mine
namespace Mine
open PySem PySem.W PySem.W.X PyProof.Rows
open PySem.Builtin PySem.SeqAt
variable {w : World} {A : Around} {R : Result → Shared → Prop} {h : Heap} {g : Array GenState} {dr : Drawn} {tk : Nat} {os : OsState}
section
variable {prog : Program} {w : World} {A : Around} {R : Result → Shared → Prop} {s : Shared}
theorem hk_gives {T : String} {name : Str} {id : String} {B : Builtin} {self : Value} {rest : List Value} {m : Made} (slot : Slot T name id) (hT : s.TypeIs self T) (entry : entryFor table id = some B) (args : argsOk id ⟨self :: rest, []⟩) (g : Gives (B ⟨self :: rest, []⟩) m)
    (h : m.post (fun v s' => R (.ok (.ret v)) s') s) : codeAny (model prog w) A (.call (.builtin id) ⟨self :: rest, []⟩) R s :=
  codeAny_call_builtin slot.plain entry (slot.check _ _ _ _ _ _ _ _ hT args (g prog w A R s h))
theorem hk_meets {T : String} {name : Str} {id : String} {B : Builtin} {self : Value} {rest : List Value} {S : PySem.Spec} (slot : Slot T name id) (hT : s.TypeIs self T) (entry : entryFor table id = some B) (args : argsOk id ⟨self :: rest, []⟩) (g : Meets (B ⟨self :: rest, []⟩) S)
    (h : S A R s) : codeAny (model prog w) A (.call (.builtin id) ⟨self :: rest, []⟩) R s :=
  codeAny_call_builtin slot.plain entry (slot.check _ _ _ _ _ _ _ _ hT args (g prog w A R s h))
theorem stradd_spec {x y : Str} {t u : Tok} (hx : x.length ≤ 1000) (hy : y.length ≤ 1000) (k : ∀ tk' v, R (.ok (.ret (.str (pie (x, y)) v))) ⟨h, g, dr, tk', os⟩) :
    codeAny (model prog w) A (.call (.builtin "str.__add__") ⟨[.str x t, .str y u], []⟩) R ⟨h, g, dr, tk, os⟩ := by
  refine hk_gives F.slot_str_add (typeIs_str _ _ _) F.entry_str_add (F.args_str_add_2 _ _) (gives_str_add x y t u) ?_
  by_cases h1 : x.length = 0
  · rw [if_pos (by simpa using h1)]
    have e : pie (x, y) = y := by
      have : x.cps = #[] := Array.size_eq_zero_iff.mp h1
      simp [pie, this]
    have := k tk u
    rw [e] at this
    exact this
  · rw [if_neg (by simpa using h1)]
    by_cases h2 : y.length = 0
    · rw [if_pos (by simpa using h2)]
      have e : pie (x, y) = x := by
        have : y.cps = #[] := Array.size_eq_zero_iff.mp h2
        simp [pie, this]
      have := k tk t
      rw [e] at this
      exact this
    · rw [if_neg (by simpa using h2)]
      refine ⟨?_, k _ _⟩
      have e : (x ++ y).length = x.length + y.length := by
        show (x.cps ++ y.cps).size = _
        simp [Str.length]
      rw [e]
      show _ ≤ 2 ^ 24
      omega
theorem strne_spec {x y : Str} {t u : Tok} (b : Bool) (hb : (x.cps.toList != y.cps.toList) = b) (k : R (.ok (.ret (.bool b))) ⟨h, g, dr, tk, os⟩) :
    codeAny (model prog w) A (.call (.builtin "str.__ne__") ⟨[.str x t, .str y u], []⟩) R ⟨h, g, dr, tk, os⟩ := by
  refine hk_gives F.slot_str_ne (typeIs_str _ _ _) F.entry_str_ne (F.args_str_ne_2 _ _) (gives_str_ne x y t u) ?_
  rw [hb]
  exact k
theorem streq_spec {x y : Str} {t u : Tok} (b : Bool) (hb : (x.cps.toList == y.cps.toList) = b) (k : R (.ok (.ret (.bool b))) ⟨h, g, dr, tk, os⟩) :
    codeAny (model prog w) A (.call (.builtin "str.__eq__") ⟨[.str x t, .str y u], []⟩) R ⟨h, g, dr, tk, os⟩ := by
  refine hk_gives F.slot_str_eq (typeIs_str _ _ _) F.entry_str_eq (F.args_str_eq_2 _ _) (gives_str_eq x y t u) ?_
  rw [hb]
  exact k
theorem intne_spec {x y : Int} {t u : Tok} (b : Bool) (hb : (x != y) = b) (k : R (.ok (.ret (.bool b))) ⟨h, g, dr, tk, os⟩) :
    codeAny (model prog w) A (.call (.builtin "int.__ne__") ⟨[.int x t, .int y u], []⟩) R ⟨h, g, dr, tk, os⟩ := by
  refine hk_gives F.slot_int_ne (typeIs_int _ _ _) F.entry_int_ne (F.args_int_ne_2 _ _) (gives_int_ne x y t u) ?_
  rw [hb]
  exact k
theorem inteq_spec {x y : Int} {t u : Tok} (b : Bool) (hb : (x == y) = b) (k : R (.ok (.ret (.bool b))) ⟨h, g, dr, tk, os⟩) :
    codeAny (model prog w) A (.call (.builtin "int.__eq__") ⟨[.int x t, .int y u], []⟩) R ⟨h, g, dr, tk, os⟩ := by
  refine hk_gives F.slot_int_eq (typeIs_int _ _ _) F.entry_int_eq (F.args_int_eq_2 _ _) (gives_int_eq x y t u) ?_
  rw [hb]
  exact k
theorem strjoin_spec {t : Tok} {l : Addr} {vs : List Value} {ys : List Str} {n : Nat} (hl : h.get? l = some (lstX vs.toArray n)) (hi : StrsAre vs ys) (hok : (ys.map (·.length)).sum ≤ 10000)
    (k : ∀ tk' v, R (.ok (.ret (.str (cat ys) v))) ⟨h, g, dr, tk', os⟩) :
    codeAny (model prog w) A (.call (.builtin "str.join") ⟨[.str "" t, .ref l], []⟩) R ⟨h, g, dr, tk, os⟩ := by
  obtain ⟨l', hv, ht⟩ := strsAre_values hi
  subst hv ht
  have e0 : (Str.ofString "").length = 0 := by decide
  have hok' : JoinOk (Str.ofString "") (l'.map (·.1)) = true := joinOk_of (by rw [e0]; omega)
  have hok2 := hok'
  unfold JoinOk at hok'
  rw [Bool.not_eq_true'] at hok'
  refine hk_meets F.slot_str_join (typeIs_str _ _ _) F.entry_str_join (F.args_str_join_2 _ _) (meets_str_join_list (Str.ofString "") t l l' hok') ⟨⟨_, hl, rfl, n, rfl⟩, post_join l' ⟨joinOk_length hok2, fun t' k' => ?_⟩⟩
  rw [glued_cat]
  exact k _ _
def strippedWs (x : Str) : Str := if stripSame Unicode.isSpace true true x then x else PySem.stripped Unicode.isSpace true true x
end
end Mine
namespace Mine
open PySem PySem.W PySem.W.X PyProof.Rows
variable {w : World} {A : Around} {R : Result → Shared → Prop} {h : Heap} {g : Array GenState} {dr : Drawn} {tk : Nat} {os : OsState}
theorem nodup_cls {T : DT} (own : ∀ p ∈ T, At w h p.1 p.2) (nd : (T.map (·.2.cls)).Nodup) : (T.map (·.1)).Nodup := by
  induction T with
  | nil => simp
  | cons x T ih =>
    rw [List.map_cons, List.nodup_cons] at nd ⊢
    refine ⟨fun hm => nd.1 ?_, ih (fun p hp => own p (.tail _ hp)) nd.2⟩
    obtain ⟨p, hp, e⟩ := List.mem_map.mp hm
    have h1 := (own p (.tail _ hp)).1
    have h2 := (own x (.head _)).1
    rw [e, h2] at h1
    exact List.mem_map.mpr ⟨p, hp, by rw [Option.some.inj h1]⟩
theorem Rep.initC {T : DT} (G : Gd w h) (own : ∀ p ∈ T, At w h p.1 p.2) (nd : NdC T) : ∃ Z, Rep (KTw w) h (T.map (·.1)) h T Z := ⟨_, Rep.init G own (nodup_cls own (ndB_nd nd))⟩
abbrev nWhite : Str := Str.ofString "white"
abbrev caS : Scope := ⟨.function, [(nDot, .local), (nWhite, .local), (nPart, .local)], false, false, []⟩
abbrev caE (p1 p2 p3 p4 p5 p6 p7 : Pos) (iter : PySem.Expr) : PySem.Expr := .ListComp (.BinOp (.Name nWhite p1) .Add (.Name nPart p2) p3) [⟨.Tuple [.Name nWhite p4, .Name nPart p5] 0 p6, iter, [], 0⟩] caS p7
def TwoOf (x y : Str) (es : Array DictEntry) : Prop := es = #[] ∨ ∃ h1 t1 v1 h2 t2 v2, es = #[⟨h1, .str x t1, v1⟩, ⟨h2, .str y t2, v2⟩]
theorem comp_cat_loop {L acc it src : Addr} {ns : Nat} {so : Obj} {qs : List Addr}
   {iter : PySem.Expr} {p1 p2 p3 p4 p5 p6 p7 : Pos} {gl : Addr} {cl : List (Str × Addr)} {q : Str} {f : Option Addr} {co : Value} {fr : Option Addr} {bi : Addr}
    (hA : A.handled = none) (hsd : so.data = .seq (qs.map Value.ref).toArray ns) (hsz : qs.length ≤ 500) :
    ∀ (rest : List Addr) (cs : List (Str × Str)) (i : Nat) (h : Heap) (tk : Nat) (na en : Nat) (ys : Array Value) (es : Array DictEntry) (ti : Tok), qs.drop i = rest → ys.size ≤ i → TwoOf nWhite nPart es → Row w h rest cs → (∀ c ∈ cs, c.1.length ≤ 10 ∧ c.2.length ≤ 10) →
    Gd w h → At w h L (nsO es en) → At w h acc (lstX ys na) → At w h it (liO (.ref src) (.int i ti)) → At w h src so → src ∉ [L, acc, it] →
    (∀ h' tk' es' en' na' v (vs : List Value), Kp [L, acc, it] h h' → TwoOf nWhite nPart es' → At w h' L (nsO es' en') → StrsAre vs (cs.map pie) → At w h' acc (lstX (ys ++ vs.toArray) na') → At w h' it (liO .none v) → R (.ok .next) ⟨h', g, dr, tk', os⟩) →
    codeAny (model pw w) A (.compLoop (caE p1 p2 p3 p4 p5 p6 p7 iter) 0 (.ref it) (.ref acc) (cEnv caS L gl cl q f co fr bi)) R ⟨h, g, dr, tk, os⟩ := by
  intro rest
  induction rest with
  | nil =>
    intro cs i h tk na en ys es ti hr hyi hes hrow hsh G aL aA aI hs hn k
    cases hrow
    obtain ⟨Z, D⟩ : ∃ Z, Rep (KTw w) h [L, acc, it] h [(L, nsO es en), (acc, lstX ys na), (it, liO (.ref src) (.int i ti))] Z := Rep.initC (T := [(L, nsO es en), (acc, lstX ys na), (it, liO (.ref src) (.int i ti))]) G (oc aL (oc aA (oc aI on))) (by kernel_rfl)
    refine start (Q := fun _ _ => True) (E := fun _ _ => True) ?_
    refine eng 2 768 (by exact hA) D (by kernel_rfl) ?_
    intro χ1 h1 D1
    refine hook (c' := .call (.builtin "list_iterator.__next__") ⟨[.ref it], []⟩) (by kernel_rfl) ?_
    have hi : qs.length ≤ i := List.drop_eq_nil_iff.mp hr
    refine li_next_none (i := i) (src := src) (ti := ti) (xs := (qs.map Value.ref).toArray) (n := ns) (so := so) (ac_handled hA) D1.gd (D1.at_ 2 (by kernel_rfl)) (D1.keep.2 _ _ hs.1 hn) hsd (by simp [hi]) ?_
    intro h2 tk2 e t K2 a2 ae he
    refine Exists.elim ((D1.turnPlus (j := 2) (x := (it, liO (.ref src) (.int i ti))) (by kernel_rfl) K2 a2.1 ae he).ex) ?_
    intro Z2 D2
    refine eng 1 1 (by exact hA) D2 (by kernel_rfl) ?_
    intro χ3 h3 D3
    refine fin (f := .next) (by kernel_rfl) ?_
    refine k h3 _ es en na (.int i ti) [] D3.keep hes (D3.at_ 1 (by kernel_rfl)) .nil ?_ (D3.at_ 3 (by kernel_rfl))
    have := D3.at_ (a := acc) (o := lstX ys na) 2 (by kernel_rfl)
    simpa using this
  | cons v rest ih =>
    intro cs i h tk na en ys es ti hr hyi hes hrow hsh G aL aA aI hs hn k
    cases hrow with
    | cons hc hrow =>
    rename_i c cs
    obtain ⟨tx, ty, av⟩ := hc
    have hc1 := hsh c (.head _)
    have hv : (qs.map Value.ref).toArray[i]? = some (.ref v) := by
      have := List.head?_drop (l := qs) (i := i)
      rw [hr] at this
      simp [← this]
    have hr' : qs.drop (i + 1) = rest := by rw [← List.drop_drop, hr]; rfl
    have hil : i < qs.length := by
      have := congrArg List.length hr
      simp at this; omega
    have hvn : v ∉ [L, acc, it] := by
      simp only [List.mem_cons, List.not_mem_nil, or_false, not_or]
      exact ⟨ne_of_cls av.1 aL.1 (by kernel_rfl), ne_of_cls av.1 aA.1 (by kernel_rfl), ne_of_cls av.1 aI.1 (by kernel_rfl)⟩
    have done : ∀ h3 tk3 hs3 t3 hs4 t4 v4 en3 ti3 tt, Gd w h3 → Kp [L, acc, it] h h3 → At w h3 L (nsO #[⟨hs3, .str nWhite t3, .str c.1 tx⟩, ⟨hs4, .str nPart t4, v4⟩] en3) → At w h3 acc (lstX (ys.push (.str (pie c) tt)) (na + 1)) → At w h3 it (liO (.ref src) (.int (i + 1 : Nat) ti3)) →
        codeAny (model pw w) A (.compLoop (caE p1 p2 p3 p4 p5 p6 p7 iter) 0 (.ref it) (.ref acc) (cEnv caS L gl cl q f co fr bi)) R ⟨h3, g, dr, tk3, os⟩ := by
      intro h3 tk3 hs3 t3 hs4 t4 v4 en3 ti3 tt G3 K3 bL bA bI
      have hn2 : ∀ b ∈ rest, b ∉ [L, acc, it] := fun b hb => by
        obtain ⟨j, hj, e⟩ := List.mem_iff_getElem.mp hb
        obtain ⟨c', _, tx', ty', a'⟩ := hrow.get (i := j) (q := b) (by rw [List.getElem?_eq_getElem hj, e])
        simp only [List.mem_cons, List.not_mem_nil, or_false, not_or]
        exact ⟨ne_of_cls a'.1 aL.1 (by kernel_rfl), ne_of_cls a'.1 aA.1 (by kernel_rfl), ne_of_cls a'.1 aI.1 (by kernel_rfl)⟩
      refine ih cs (i + 1) h3 tk3 (na + 1) en3 (ys.push (.str (pie c) tt)) _ ti3 hr' (by simp; omega) (.inr ⟨_, _, _, _, _, _, rfl⟩) (hrow.keeps fun b hb o e => K3.2 b o e (hn2 b hb)) (fun c hc => hsh c (.tail _ hc)) G3 bL bA bI ⟨K3.2 _ _ hs.1 hn, hs.2⟩ hn ?_
      intro h' tk' es' en' na' x vs K' a b st c' d
      refine k h' tk' es' en' na' x (.str (pie c) tt :: vs) (K3.trans K' fun _ _ _ q => q) a b (.cons _ _ st) ?_ d
      have e : ys ++ ((.str (pie c) tt :: vs).toArray) = ys.push (.str (pie c) tt) ++ vs.toArray := by
        apply Array.ext'; simp
      rw [e]; exact c'
    obtain ⟨Z, D⟩ : ∃ Z, Rep (KTw w) h [L, acc, it, v] h [(L, nsO es en), (acc, lstX ys na), (it, liO (.ref src) (.int i ti)), (v, tupO c.1 tx c.2 ty)] Z := Rep.initC (T := [(L, nsO es en), (acc, lstX ys na), (it, liO (.ref src) (.int i ti)), (v, tupO c.1 tx c.2 ty)]) G (oc aL (oc aA (oc aI (oc av on)))) (by kernel_rfl)
    rcases hes with rfl | ⟨hs1, t1, v1, hs2, t2, v2, rfl⟩
    · refine start (Q := fun _ _ => True) (E := fun _ _ => True) ?_
      refine eng 2 768 (by exact hA) D (by kernel_rfl) ?_
      intro χ1 h1 D1
      refine hook (c' := .call (.builtin "list_iterator.__next__") ⟨[.ref it], []⟩) (by kernel_rfl) ?_
      have K1 : Kp [] h h1 := Rep.kpF 0 [true, true, true, true] D D1 (by kernel_rfl)
      refine li_next_some (i := i) (src := src) (ti := ti) (v := .ref v) (xs := (qs.map Value.ref).toArray) (n := ns) (so := so) (ac_handled hA) D1.gd (D1.at_ 2 (by kernel_rfl)) (K1.2 _ _ hs.1 (by simp)) hsd hv ?_
      intro h2 tk2 K2 a2
      refine Exists.elim ((D1.turn (j := 2) (x := (it, liO (.ref src) (.int i ti))) (by kernel_rfl) K2 a2.1).ex) ?_
      intro Z2 D2
      refine eng 5 17247240195 (by exact hA) D2 (by kernel_rfl) ?_
      intro χ3 h3 D3
      refine eng2 "special-get-raises" 1 0 1 0 (by exact hA) D3 (by kernel_rfl) ?_
      intro χ4 h4 D4
      refine eng 61 190539317896818723920918729735927892094614246404726038446638215575887350118627802052220978441340195969580537498397449412914350996531785499648 (by exact hA) D4 (by kernel_rfl) ?_
      intro χ5 h5 D5
      refine hook (c' := .call (.builtin "str.__add__") ⟨[.str c.1 tx, .str c.2 ty], []⟩) (by kernel_rfl) ?_
      refine stradd_spec (by omega) (by omega) ?_
      intro tk6 u
      refine hook (c' := .call (.builtin "list.append") ⟨[.ref acc, .str (pie c) u], []⟩) (by kernel_rfl) ?_
      refine append_lst (n := na) (xs := ys) (v := .str (pie c) u) (ac_handled hA) (D5.one 4 (by kernel_rfl)) (by omega) ?_
      intro h7 tk7 K7 a7
      refine Exists.elim ((D5.turn (j := 4) (x := (acc, lstX ys na)) (by kernel_rfl) K7 a7.1).ex) ?_
      intro Z7 D7
      refine againC (c' := .compLoop (caE p1 p2 p3 p4 p5 p6 p7 iter) 0 (.ref it) (.ref acc) (cEnv caS L gl cl q f co fr bi)) (c := .compLoop (caE p1 p2 p3 p4 p5 p6 p7 iter) 0 (.ref it) (.ref acc) (cEnv caS L gl cl q f co fr bi)) (by kernel_rfl) ?_
      have bL := D7.at_ (a := L) (o := nsO #[⟨eHi (objAt (TT D7) 3) 0, .str nWhite (eKi (objAt (TT D7) 3) 0), .str c.1 tx⟩, ⟨eHi (objAt (TT D7) 3) 1, .str nPart (eKi (objAt (TT D7) 3) 1), .str c.2 ty⟩] (en + 1 + 1)) 3 (by kernel_rfl)
      have bA := D7.at_ (a := acc) (o := lstX (ys.push (.str (pie c) u)) (na + 1)) 4 (by kernel_rfl)
      have bI := D7.at_ (a := it) (o := liO (.ref src) (.int (i + 1 : Nat) 0)) 5 (by kernel_rfl)
      refine done h7 _ _ _ _ _ _ _ 0 u D7.gd (Rep.kpF 3 [false, false, false, true] D D7 (by kernel_rfl)) bL bA bI
    · refine start (Q := fun _ _ => True) (E := fun _ _ => True) ?_
      refine eng 2 768 (by exact hA) D (by kernel_rfl) ?_
      intro χ1 h1 D1
      refine hook (c' := .call (.builtin "list_iterator.__next__") ⟨[.ref it], []⟩) (by kernel_rfl) ?_
      have K1 : Kp [] h h1 := Rep.kpF 0 [true, true, true, true] D D1 (by kernel_rfl)
      refine li_next_some (i := i) (src := src) (ti := ti) (v := .ref v) (xs := (qs.map Value.ref).toArray) (n := ns) (so := so) (ac_handled hA) D1.gd (D1.at_ 2 (by kernel_rfl)) (K1.2 _ _ hs.1 (by simp)) hsd hv ?_
      intro h2 tk2 K2 a2
      refine Exists.elim ((D1.turn (j := 2) (x := (it, liO (.ref src) (.int i ti))) (by kernel_rfl) K2 a2.1).ex) ?_
      intro Z2 D2
      refine eng 5 17247240195 (by exact hA) D2 (by kernel_rfl) ?_
      intro χ3 h3 D3
      refine eng2 "special-get-raises" 1 0 1 0 (by exact hA) D3 (by kernel_rfl) ?_
      intro χ4 h4 D4
      refine eng 61 190539317896818723920918729735927892094614246404726038446638215575887350118627802052220978441340195969580537498397449412914350996531785499648 (by exact hA) D4 (by kernel_rfl) ?_
      intro χ5 h5 D5
      refine hook (c' := .call (.builtin "str.__add__") ⟨[.str c.1 tx, .str c.2 ty], []⟩) (by kernel_rfl) ?_
      refine stradd_spec (by omega) (by omega) ?_
      intro tk6 u
      refine hook (c' := .call (.builtin "list.append") ⟨[.ref acc, .str (pie c) u], []⟩) (by kernel_rfl) ?_
      refine append_lst (n := na) (xs := ys) (v := .str (pie c) u) (ac_handled hA) (D5.one 4 (by kernel_rfl)) (by omega) ?_
      intro h7 tk7 K7 a7
      refine Exists.elim ((D5.turn (j := 4) (x := (acc, lstX ys na)) (by kernel_rfl) K7 a7.1).ex) ?_
      intro Z7 D7
      refine againC (c' := .compLoop (caE p1 p2 p3 p4 p5 p6 p7 iter) 0 (.ref it) (.ref acc) (cEnv caS L gl cl q f co fr bi)) (c := .compLoop (caE p1 p2 p3 p4 p5 p6 p7 iter) 0 (.ref it) (.ref acc) (cEnv caS L gl cl q f co fr bi)) (by kernel_rfl) ?_
      have bL := D7.at_ (a := L) (o := nsO #[⟨eHi (objAt (TT D7) 3) 0, .str nWhite (eKi (objAt (TT D7) 3) 0), .str c.1 tx⟩, ⟨eHi (objAt (TT D7) 3) 1, .str nPart (eKi (objAt (TT D7) 3) 1), .str c.2 ty⟩] (en)) 3 (by kernel_rfl)
      have bA := D7.at_ (a := acc) (o := lstX (ys.push (.str (pie c) u)) (na + 1)) 4 (by kernel_rfl)
      have bI := D7.at_ (a := it) (o := liO (.ref src) (.int (i + 1 : Nat) 0)) 5 (by kernel_rfl)
      refine done h7 _ _ _ _ _ _ _ 0 u D7.gd (Rep.kpF 3 [false, false, false, true] D D7 (by kernel_rfl)) bL bA bI
theorem comp_start {acc : Value} {it : Addr} {a b : Value} {env : Env}
   {elt target iter : PySem.Expr} {ifs : List PySem.Expr} {scope : Scope} {pos : Pos}
    (hA : A.handled = none) (G : Gd w h) (aI : At w h it (liO a b))
    (k : ∀ h' tk', Kp [] h h' → Gd w h' → codeAny (model pw w) A (.compLoop (.ListComp elt [⟨target, iter, ifs, 0⟩] scope pos) 0 (.ref it) acc env) R ⟨h', g, dr, tk', os⟩) :
    codeAny (model pw w) A (.compStart (.ListComp elt [⟨target, iter, ifs, 0⟩] scope pos) 0 (.ref it) acc env) R ⟨h, g, dr, tk, os⟩ := by
  obtain ⟨Z, D⟩ : ∃ Z, Rep (KTw w) h [it] h [(it, liO a b)] Z := Rep.initC (T := [(it, liO a b)]) G (oc aI on) (by kernel_rfl)
  refine start (Q := fun _ _ => True) (E := fun _ _ => True) ?_
  cases hb : w.params.followText "comprehension-iter-twice" with
  | true =>
    refine engS _ (stR_eq hb) 1 0 hA D (by kernel_rfl) ?_
    intro χ1 h1 D1
    refine againC (c := .compStart (.ListComp elt [⟨target, iter, ifs, 0⟩] scope pos) 0 (.ref it) acc env) (c' := .compLoop (.ListComp elt [⟨target, iter, ifs, 0⟩] scope pos) 0 (.ref it) acc env) (by kernel_rfl) ?_
    exact k h1 _ (Rep.kpF 0 [true] D D1 (by kernel_rfl)) D1.gd
  | false =>
    refine engS _ (stR_eq hb) 1 0 hA D (by kernel_rfl) ?_
    intro χ1 h1 D1
    refine eng 4 16842752 (by exact hA) D1 (by kernel_rfl) ?_
    intro χ2 h2 D2
    refine eng2 "special-get-raises" 1 0 1 0 (by exact hA) D2 (by kernel_rfl) ?_
    intro χ3 h3 D3
    refine eng 5 4294967552 (by exact hA) D3 (by kernel_rfl) ?_
    intro χ4 h4 D4
    refine againC (c := .compStart (.ListComp elt [⟨target, iter, ifs, 0⟩] scope pos) 0 (.ref it) acc env) (c' := .compLoop (.ListComp elt [⟨target, iter, ifs, 0⟩] scope pos) 0 (.ref it) acc env) (by kernel_rfl) ?_
    exact k h4 _ (Rep.kpF 0 [true] D D4 (by kernel_rfl)) D4.gd
theorem comp_cat {L acc it src : Addr} {ns na en : Nat} {so : Obj} {qs : List Addr} {cs : List (Str × Str)} {ti : Tok}
   {iter : PySem.Expr} {p1 p2 p3 p4 p5 p6 p7 : Pos} {gl : Addr} {cl : List (Str × Addr)} {q : Str} {f : Option Addr} {co : Value} {fr : Option Addr} {bi : Addr}
    (hA : A.handled = none) (hsd : so.data = .seq (qs.map Value.ref).toArray ns) (hsh : Short cs) (hrow : Row w h qs cs)
    (G : Gd w h) (aL : At w h L (nsO #[] en)) (aA : At w h acc (lstX #[] na)) (aI : At w h it (liO (.ref src) (.int 0 ti))) (hs : At w h src so) (hn : src ∉ [L, acc, it])
    (k : ∀ h' tk' es' en' na' v (vs : List Value), Kp [L, acc, it] h h' → TwoOf nWhite nPart es' → At w h' L (nsO es' en') → StrsAre vs (cs.map pie) → At w h' acc (lstX vs.toArray na') → At w h' it (liO .none v) → R (.ok .next) ⟨h', g, dr, tk', os⟩) :
    codeAny (model pw w) A (.compStart (caE p1 p2 p3 p4 p5 p6 p7 iter) 0 (.ref it) (.ref acc) (cEnv caS L gl cl q f co fr bi)) R ⟨h, g, dr, tk, os⟩ := by
  refine comp_start hA G aI fun h1 tk1 K1 G1 => ?_
  have hl := hrow.length
  have h1 := hsh.1
  refine comp_cat_loop hA hsd (by omega) qs cs 0 _ tk1 na en #[] #[] ti rfl (by simp) (.inl rfl) (hrow.keeps fun b hb o e => K1.2 b o e (by simp)) hsh.2 G1 (aL.kp K1 (by simp)) (aA.kp K1 (by simp)) (aI.kp K1 (by simp)) (hs.kp K1 (by simp)) hn ?_
  intro h' tk' es' en' na' v vs K a b st c d
  exact k h' tk' es' en' na' v vs ((K1.weak (by simp)).trans K fun _ _ _ q => q) a b st (by simpa using c) d
def set1 (T : DT) (u : Nat × Obj) : DT := match T[u.1]? with
  | some x => T.set u.1 (x.1, u.2)
  | none => T
def setAll : DT → List (Nat × Obj) → DT
  | T, [] => T
  | T, u :: us => setAll (set1 T u) us
theorem set1_keys (T : DT) (u : Nat × Obj) : (set1 T u).map (·.1) = T.map (·.1) := by
  unfold set1
  cases h : T[u.1]? with
  | none => rfl
  | some x => exact map_set_same (y := (x.1, u.2)) h rfl
theorem adrAt_keys {T T' : DT} (e : T'.map (·.1) = T.map (·.1)) (j : Nat) : adrAt T' j = adrAt T j := by
  have h := congrArg (fun l => l[j]?) e
  simp only [List.getElem?_map] at h
  unfold adrAt
  cases h1 : T'[j]? <;> cases h2 : T[j]? <;> simp_all
theorem setAll_keys : ∀ (us : List (Nat × Obj)) (T : DT), (setAll T us).map (·.1) = T.map (·.1)
  | [], T => rfl
  | u :: us, T => (setAll_keys us (set1 T u)).trans (set1_keys T u)
theorem mem_setAll : ∀ (us : List (Nat × Obj)) (T : DT) (p : Addr × Obj), (T.map (·.1)).Nodup → (∀ u ∈ us, u.1 < T.length) → p ∈ setAll T us → (∃ u ∈ us, p = (adrAt T u.1, u.2)) ∨ (p ∈ T ∧ ∀ u ∈ us, p.1 ≠ adrAt T u.1)
  | [], T, p, _, _, hp => .inr ⟨hp, fun _ h => (nomatch h)⟩
  | u :: us, T, p, nd, hl, hp => by
    have ek := set1_keys T u
    have hlen : (set1 T u).length = T.length := by have := congrArg List.length ek; simpa using this
    rcases mem_setAll us (set1 T u) p (by rw [ek]; exact nd) (fun v hv => by rw [hlen]; exact hl v (.tail _ hv)) hp with ⟨v, hv, e⟩ | ⟨hm, hne⟩
    · exact .inl ⟨v, .tail _ hv, by rw [e, adrAt_keys ek]⟩
    · have hu := hl u (.head _)
      have hx : T[u.1]? = some T[u.1] := List.getElem?_eq_getElem hu
      have ea : adrAt T u.1 = T[u.1].1 := by unfold adrAt; rw [hx]
      have hm' : p ∈ T.set u.1 (T[u.1].1, u.2) := by
        unfold set1 at hm
        rw [hx] at hm
        exact hm
      rcases getElem?_set_mem (y := (T[u.1].1, u.2)) p hx rfl nd hm' with rfl | ⟨hm2, hn2⟩
      · exact .inl ⟨u, .head _, by rw [ea]⟩
      · refine .inr ⟨hm2, fun v hv => ?_⟩
        rcases List.mem_cons.mp hv with rfl | hv
        · rw [ea]; exact hn2
        · rw [← adrAt_keys ek]; exact hne v hv
theorem Rep.turnL {kt : KT} {h₀ h h' : Heap} {ks ks' : List Addr} {T : DT} {Z : Nat} (D : Rep kt h₀ ks h T Z) (us : List (Nat × Obj)) (K : Kp ks' h h') (hl : us.all (fun u => Nat.blt u.1 T.length) = true) (ek : ks' = us.map fun u => adrAt T u.1)
    (own : ∀ u ∈ us, h'.get? (adrAt T u.1) = some u.2) : ∃ Z', Rep kt h₀ ks h' (setAll T us) Z' := by
  have hl' : ∀ u ∈ us, u.1 < T.length := fun u hu => Nat.le_of_ble_eq_true (List.all_eq_true.mp hl u hu)
  refine D.redo K (fun a ha => ?_) (setAll_keys us T) fun p hp => ?_
  · rw [ek] at ha
    obtain ⟨u, hu, rfl⟩ := List.mem_map.mp ha
    have hx : T[u.1]? = some (T[u.1]'(hl' u hu)) := List.getElem?_eq_getElem (hl' u hu)
    unfold adrAt
    rw [hx]
    exact List.mem_map_of_mem (List.getElem_mem _)
  · rcases mem_setAll us T p D.nd hl' hp with ⟨u, hu, rfl⟩ | ⟨hm, hne⟩
    · exact own u hu
    · refine K.2 _ _ (D.own p hm) fun q => ?_
      rw [ek] at q
      obtain ⟨u, hu, e⟩ := List.mem_map.mp q
      exact hne u hu e.symm
def eNd (o : Obj) : Nat := match o.data with
  | .dict _ n => n
  | _ => 0
def tokV (v : Option Value) : Tok := match v with
  | some (.int _ t) => t
  | some (.str _ t) => t
  | _ => 0
def argsC : Code → List Value
  | .call _ a => a.pos
  | .builtin _ a => a.pos
  | _ => []
def argT (t : Sem Fin) (i : Nat) : Tok := tokV (argsC (adrC t))[i]?
section
variable {prog : Program} {w : World} {A : Around} {Q : Fin → Shared → Prop} {E : Value → Shared → Prop} {R : Result → Shared → Prop}
theorem hook2 (F : Tok → Tok → Code) {c : Option Code} {t : Sem Fin} {fr : Frs} {s : Shared} (e : CallAt t (F (argT t 0) (argT t 1)))
    (h : ∀ u v, codeAny (model prog w) (ac A c fr) (F u v) (fun r s' => Mean prog w A Q E R c (kC t r) fr s') s) : Mean prog w A Q E R c t fr s := hook e (h _ _)
theorem hook3 (F : Tok → Tok → Tok → Tok → Code) {c : Option Code} {t : Sem Fin} {fr : Frs} {s : Shared} (e : CallAt t (F (argT t 0) (argT t 1) (argT t 2) (argT t 3)))
    (h : ∀ u v x y, codeAny (model prog w) (ac A c fr) (F u v x y) (fun r s' => Mean prog w A Q E R c (kC t r) fr s') s) : Mean prog w A Q E R c t fr s := hook e (h _ _ _ _)
end
end Mine
namespace Mine
open PySem PySem.W PySem.W.X PyProof.Rows
open PySem.SeqAt PySem.AutoSeq1
variable {w : World} {A : Around} {R : Result → Shared → Prop} {h : Heap} {g : Array GenState} {dr : Drawn} {tk : Nat} {os : OsState}
def lts (a b : Str) : Bool := decide (a.cps.toList < b.cps.toList)
def sCmp (op : CmpOp) (a b : Str) : Bool := match op with
  | .Lt => lts a b | .LtE => !lts b a | .Gt => lts b a | .GtE => !lts a b | .Eq => false | _ => true
def eCmp (op : CmpOp) : Bool := match op with
  | .Lt => false | .LtE => true | .Gt => false | .GtE => true | .Eq => true | _ => false
def tCmp (op : CmpOp) (x y z v : Str) : Bool := if x == z then (if y == v then eCmp op else sCmp op y v) else sCmp op x z
theorem eqStr {prog : Program} {E : Value → Shared → Prop} {Q : Bool → Shared → Prop} {s : Shared} {a b : Str} {t u : Tok} (h : Q (a == b) s) : wpAny (model prog w) A (eqBool (.str a t) (.str b u)) Q E s := EqAt.str_str a t b u prog w E Q h
theorem rcStr {prog : Program} {E : Value → Shared → Prop} {Q : Value → Shared → Prop} {s : Shared} {a b : Str} {t u : Tok} : (op : CmpOp) → (ho : op = .Lt ∨ op = .LtE ∨ op = .Gt ∨ op = .GtE) → (h : Q (.bool (sCmp op a b)) s) → wpAny (model prog w) A (richCompare op (.str a t) (.str b u)) Q E s := by
  intro op ho h
  rcases ho with rfl | rfl | rfl | rfl
  · exact compareOp_gives (op := .Lt) (typeIs_str s a t) (typeIs_str s b u) F.slot_str_lt F.entry_str_lt (F.args_str_lt_2 _ _) (gives_str_lt a b t u) (fun e => nomatch e) h
  · exact compareOp_gives (op := .LtE) (typeIs_str s a t) (typeIs_str s b u) F.slot_str_le F.entry_str_le (F.args_str_le_2 _ _) (gives_str_le a b t u) (fun e => nomatch e) h
  · exact compareOp_gives (op := .Gt) (typeIs_str s a t) (typeIs_str s b u) F.slot_str_gt F.entry_str_gt (F.args_str_gt_2 _ _) (gives_str_gt a b t u) (fun e => nomatch e) h
  · exact compareOp_gives (op := .GtE) (typeIs_str s a t) (typeIs_str s b u) F.slot_str_ge F.entry_str_ge (F.args_str_ge_2 _ _) (gives_str_ge a b t u) (fun e => nomatch e) h
theorem tuple_lt2 (l b : Addr) (x y z v : Str) (tx ty tz tv : Tok) :
    Meets (Builtin.«tuple.__lt__» ⟨[.ref l, .ref b], []⟩)
      (fun A R s => s.heap.get? l = some (tupO x tx y ty) ∧ s.heap.get? b = some (tupO z tz v tv) ∧ R (.ok (.ret (.bool (tCmp .Lt x y z v)))) s) :=
  .of_wp fun prog w A R s h => by
    obtain ⟨hp, g, d, tk, os⟩ := s; obtain ⟨hl, hb, h⟩ := h
    have f2 := AutoSeq1.sub_tuple_tuple
    unfold tCmp at h
    wp_walk using wpAny_loadPart' hl, wpAny_loadPart' hb, wpAny_forIn_list _ (fun rest b s' => b.1 = none ∧ s' = ⟨hp, g, d, tk, os⟩ ∧
      (rest = [(.str x tx, .str z tz), (.str y ty, .str v tv)] ∨ (rest = [(.str y ty, .str v tv)] ∧ (x == z) = true) ∨ (rest = [] ∧ (x == z) = true ∧ (y == v) = true))) _
    case turn =>
      rintro ⟨a, c⟩ rest b s' ⟨hb', rfl, hz⟩
      rcases hz with hz | ⟨hz, e1⟩ | ⟨hz, _⟩
      · injection hz with hz1 hz2
        injection hz1 with ha hc
        subst ha hc hz2
        refine wpAny_bind (eqStr ?_)
        cases e1 : x == z with
        | true =>
          wp_walk
          exact ⟨rfl, rfl, .inr (.inl ⟨rfl, rfl⟩)⟩
        | false =>
          refine wpAny_bind (wpAny_rule (wpAny_bind (rcStr .Lt (by simp) ?_)))
          wp_walk
          rw [e1] at h
          exact ⟨_, rfl, by simpa using h⟩
      · injection hz with hz1 hz2
        injection hz1 with ha hc
        subst ha hc hz2
        refine wpAny_bind (eqStr ?_)
        cases e2 : y == v with
        | true =>
          wp_walk
          exact ⟨rfl, rfl, .inr (.inr ⟨rfl, e1, rfl⟩)⟩
        | false =>
          refine wpAny_bind (wpAny_rule (wpAny_bind (rcStr .Lt (by simp) ?_)))
          wp_walk
          rw [e1, e2] at h
          exact ⟨_, rfl, by simpa using h⟩
      · cases hz
    case fin =>
      rintro ⟨b1, b2⟩ s' ⟨hb', rfl, hz⟩
      rcases hz with hz | ⟨hz, e1⟩ | ⟨hz, e1, e2⟩
      · cases hz
      · cases hz
      simp only at hb'
      subst hb'
      wp_walk
      rw [e1, e2] at h
      exact ⟨_, rfl, by simpa [Builtin.Tuple.tupleCompareSizes, eCmp] using h⟩
    case h =>
      exact ⟨rfl, rfl, .inl rfl⟩
theorem rc_lt {prog : Program} {E : Value → Shared → Prop} {Q : Value → Shared → Prop} {s : Shared} {l b : Addr} {x y z v : Str} {tx ty tz tv : Tok} (hl : s.heap.get? l = some (tupO x tx y ty)) (hb : s.heap.get? b = some (tupO z tz v tv)) (hu : A.units < cLine)
    (h : Q (.bool (tCmp .Lt x y z v)) s) : wpAny (model prog w) A (compareOp .Lt (.ref l) (.ref b)) Q E s :=
  richCompare_meets_room (op := .Lt) ⟨_, hl, rfl⟩ ⟨_, hb, rfl⟩ F.slot_tuple_lt F.entry_tuple_lt (F.args_tuple_lt_2 _ _) (tuple_lt2 l b x y z v tx ty tz tv)
    ⟨hl, hb, show Value.bool (tCmp .Lt x y z v) ≠ Value.notImplemented ∧ Q (.bool (tCmp .Lt x y z v)) s from ⟨(fun x => nomatch x), h⟩⟩ hu
theorem tuple_le2 (l b : Addr) (x y z v : Str) (tx ty tz tv : Tok) :
    Meets (Builtin.«tuple.__le__» ⟨[.ref l, .ref b], []⟩)
      (fun A R s => s.heap.get? l = some (tupO x tx y ty) ∧ s.heap.get? b = some (tupO z tz v tv) ∧ R (.ok (.ret (.bool (tCmp .LtE x y z v)))) s) :=
  .of_wp fun prog w A R s h => by
    obtain ⟨hp, g, d, tk, os⟩ := s; obtain ⟨hl, hb, h⟩ := h
    have f2 := AutoSeq1.sub_tuple_tuple
    unfold tCmp at h
    wp_walk using wpAny_loadPart' hl, wpAny_loadPart' hb, wpAny_forIn_list _ (fun rest b s' => b.1 = none ∧ s' = ⟨hp, g, d, tk, os⟩ ∧
      (rest = [(.str x tx, .str z tz), (.str y ty, .str v tv)] ∨ (rest = [(.str y ty, .str v tv)] ∧ (x == z) = true) ∨ (rest = [] ∧ (x == z) = true ∧ (y == v) = true))) _
    case turn =>
      rintro ⟨a, c⟩ rest b s' ⟨hb', rfl, hz⟩
      rcases hz with hz | ⟨hz, e1⟩ | ⟨hz, _⟩
      · injection hz with hz1 hz2
        injection hz1 with ha hc
        subst ha hc hz2
        refine wpAny_bind (eqStr ?_)
        cases e1 : x == z with
        | true =>
          wp_walk
          exact ⟨rfl, rfl, .inr (.inl ⟨rfl, rfl⟩)⟩
        | false =>
          refine wpAny_bind (wpAny_rule (wpAny_bind (rcStr .LtE (by simp) ?_)))
          wp_walk
          rw [e1] at h
          exact ⟨_, rfl, by simpa using h⟩
      · injection hz with hz1 hz2
        injection hz1 with ha hc
        subst ha hc hz2
        refine wpAny_bind (eqStr ?_)
        cases e2 : y == v with
        | true =>
          wp_walk
          exact ⟨rfl, rfl, .inr (.inr ⟨rfl, e1, rfl⟩)⟩
        | false =>
          refine wpAny_bind (wpAny_rule (wpAny_bind (rcStr .LtE (by simp) ?_)))
          wp_walk
          rw [e1, e2] at h
          exact ⟨_, rfl, by simpa using h⟩
      · cases hz
    case fin =>
      rintro ⟨b1, b2⟩ s' ⟨hb', rfl, hz⟩
      rcases hz with hz | ⟨hz, e1⟩ | ⟨hz, e1, e2⟩
      · cases hz
      · cases hz
      simp only at hb'
      subst hb'
      wp_walk
      rw [e1, e2] at h
      exact ⟨_, rfl, by simpa [Builtin.Tuple.tupleCompareSizes, eCmp] using h⟩
    case h =>
      exact ⟨rfl, rfl, .inl rfl⟩
theorem rc_le {prog : Program} {E : Value → Shared → Prop} {Q : Value → Shared → Prop} {s : Shared} {l b : Addr} {x y z v : Str} {tx ty tz tv : Tok} (hl : s.heap.get? l = some (tupO x tx y ty)) (hb : s.heap.get? b = some (tupO z tz v tv)) (hu : A.units < cLine)
    (h : Q (.bool (tCmp .LtE x y z v)) s) : wpAny (model prog w) A (compareOp .LtE (.ref l) (.ref b)) Q E s :=
  richCompare_meets_room (op := .LtE) ⟨_, hl, rfl⟩ ⟨_, hb, rfl⟩ F.slot_tuple_le F.entry_tuple_le (F.args_tuple_le_2 _ _) (tuple_le2 l b x y z v tx ty tz tv)
    ⟨hl, hb, show Value.bool (tCmp .LtE x y z v) ≠ Value.notImplemented ∧ Q (.bool (tCmp .LtE x y z v)) s from ⟨(fun x => nomatch x), h⟩⟩ hu
theorem tuple_gt2 (l b : Addr) (x y z v : Str) (tx ty tz tv : Tok) :
    Meets (Builtin.«tuple.__gt__» ⟨[.ref l, .ref b], []⟩)
      (fun A R s => s.heap.get? l = some (tupO x tx y ty) ∧ s.heap.get? b = some (tupO z tz v tv) ∧ R (.ok (.ret (.bool (tCmp .Gt x y z v)))) s) :=
  .of_wp fun prog w A R s h => by
    obtain ⟨hp, g, d, tk, os⟩ := s; obtain ⟨hl, hb, h⟩ := h
    have f2 := AutoSeq1.sub_tuple_tuple
    unfold tCmp at h
    wp_walk using wpAny_loadPart' hl, wpAny_loadPart' hb, wpAny_forIn_list _ (fun rest b s' => b.1 = none ∧ s' = ⟨hp, g, d, tk, os⟩ ∧
      (rest = [(.str x tx, .str z tz), (.str y ty, .str v tv)] ∨ (rest = [(.str y ty, .str v tv)] ∧ (x == z) = true) ∨ (rest = [] ∧ (x == z) = true ∧ (y == v) = true))) _
    case turn =>
      rintro ⟨a, c⟩ rest b s' ⟨hb', rfl, hz⟩
      rcases hz with hz | ⟨hz, e1⟩ | ⟨hz, _⟩
      · injection hz with hz1 hz2
        injection hz1 with ha hc
        subst ha hc hz2
        refine wpAny_bind (eqStr ?_)
        cases e1 : x == z with
        | true =>
          wp_walk
          exact ⟨rfl, rfl, .inr (.inl ⟨rfl, rfl⟩)⟩
        | false =>
          refine wpAny_bind (wpAny_rule (wpAny_bind (rcStr .Gt (by simp) ?_)))
          wp_walk
          rw [e1] at h
          exact ⟨_, rfl, by simpa using h⟩
      · injection hz with hz1 hz2
        injection hz1 with ha hc
        subst ha hc hz2
        refine wpAny_bind (eqStr ?_)
        cases e2 : y == v with
        | true =>
          wp_walk
          exact ⟨rfl, rfl, .inr (.inr ⟨rfl, e1, rfl⟩)⟩
        | false =>
          refine wpAny_bind (wpAny_rule (wpAny_bind (rcStr .Gt (by simp) ?_)))
          wp_walk
          rw [e1, e2] at h
          exact ⟨_, rfl, by simpa using h⟩
      · cases hz
    case fin =>
      rintro ⟨b1, b2⟩ s' ⟨hb', rfl, hz⟩
      rcases hz with hz | ⟨hz, e1⟩ | ⟨hz, e1, e2⟩
      · cases hz
      · cases hz
      simp only at hb'
      subst hb'
      wp_walk
      rw [e1, e2] at h
      exact ⟨_, rfl, by simpa [Builtin.Tuple.tupleCompareSizes, eCmp] using h⟩
    case h =>
      exact ⟨rfl, rfl, .inl rfl⟩
theorem rc_gt {prog : Program} {E : Value → Shared → Prop} {Q : Value → Shared → Prop} {s : Shared} {l b : Addr} {x y z v : Str} {tx ty tz tv : Tok} (hl : s.heap.get? l = some (tupO x tx y ty)) (hb : s.heap.get? b = some (tupO z tz v tv)) (hu : A.units < cLine)
    (h : Q (.bool (tCmp .Gt x y z v)) s) : wpAny (model prog w) A (compareOp .Gt (.ref l) (.ref b)) Q E s :=
  richCompare_meets_room (op := .Gt) ⟨_, hl, rfl⟩ ⟨_, hb, rfl⟩ F.slot_tuple_gt F.entry_tuple_gt (F.args_tuple_gt_2 _ _) (tuple_gt2 l b x y z v tx ty tz tv)
    ⟨hl, hb, show Value.bool (tCmp .Gt x y z v) ≠ Value.notImplemented ∧ Q (.bool (tCmp .Gt x y z v)) s from ⟨(fun x => nomatch x), h⟩⟩ hu
theorem tuple_ge2 (l b : Addr) (x y z v : Str) (tx ty tz tv : Tok) :
    Meets (Builtin.«tuple.__ge__» ⟨[.ref l, .ref b], []⟩)
      (fun A R s => s.heap.get? l = some (tupO x tx y ty) ∧ s.heap.get? b = some (tupO z tz v tv) ∧ R (.ok (.ret (.bool (tCmp .GtE x y z v)))) s) :=
  .of_wp fun prog w A R s h => by
    obtain ⟨hp, g, d, tk, os⟩ := s; obtain ⟨hl, hb, h⟩ := h
    have f2 := AutoSeq1.sub_tuple_tuple
    unfold tCmp at h
    wp_walk using wpAny_loadPart' hl, wpAny_loadPart' hb, wpAny_forIn_list _ (fun rest b s' => b.1 = none ∧ s' = ⟨hp, g, d, tk, os⟩ ∧
      (rest = [(.str x tx, .str z tz), (.str y ty, .str v tv)] ∨ (rest = [(.str y ty, .str v tv)] ∧ (x == z) = true) ∨ (rest = [] ∧ (x == z) = true ∧ (y == v) = true))) _
    case turn =>
      rintro ⟨a, c⟩ rest b s' ⟨hb', rfl, hz⟩
      rcases hz with hz | ⟨hz, e1⟩ | ⟨hz, _⟩
      · injection hz with hz1 hz2
        injection hz1 with ha hc
        subst ha hc hz2
        refine wpAny_bind (eqStr ?_)
        cases e1 : x == z with
        | true =>
          wp_walk
          exact ⟨rfl, rfl, .inr (.inl ⟨rfl, rfl⟩)⟩
        | false =>
          refine wpAny_bind (wpAny_rule (wpAny_bind (rcStr .GtE (by simp) ?_)))
          wp_walk
          rw [e1] at h
          exact ⟨_, rfl, by simpa using h⟩
      · injection hz with hz1 hz2
        injection hz1 with ha hc
        subst ha hc hz2
        refine wpAny_bind (eqStr ?_)
        cases e2 : y == v with
        | true =>
          wp_walk
          exact ⟨rfl, rfl, .inr (.inr ⟨rfl, e1, rfl⟩)⟩
        | false =>
          refine wpAny_bind (wpAny_rule (wpAny_bind (rcStr .GtE (by simp) ?_)))
          wp_walk
          rw [e1, e2] at h
          exact ⟨_, rfl, by simpa using h⟩
      · cases hz
    case fin =>
      rintro ⟨b1, b2⟩ s' ⟨hb', rfl, hz⟩
      rcases hz with hz | ⟨hz, e1⟩ | ⟨hz, e1, e2⟩
      · cases hz
      · cases hz
      simp only at hb'
      subst hb'
      wp_walk
      rw [e1, e2] at h
      exact ⟨_, rfl, by simpa [Builtin.Tuple.tupleCompareSizes, eCmp] using h⟩
    case h =>
      exact ⟨rfl, rfl, .inl rfl⟩
theorem rc_ge {prog : Program} {E : Value → Shared → Prop} {Q : Value → Shared → Prop} {s : Shared} {l b : Addr} {x y z v : Str} {tx ty tz tv : Tok} (hl : s.heap.get? l = some (tupO x tx y ty)) (hb : s.heap.get? b = some (tupO z tz v tv)) (hu : A.units < cLine)
    (h : Q (.bool (tCmp .GtE x y z v)) s) : wpAny (model prog w) A (compareOp .GtE (.ref l) (.ref b)) Q E s :=
  richCompare_meets_room (op := .GtE) ⟨_, hl, rfl⟩ ⟨_, hb, rfl⟩ F.slot_tuple_ge F.entry_tuple_ge (F.args_tuple_ge_2 _ _) (tuple_ge2 l b x y z v tx ty tz tv)
    ⟨hl, hb, show Value.bool (tCmp .GtE x y z v) ≠ Value.notImplemented ∧ Q (.bool (tCmp .GtE x y z v)) s from ⟨(fun x => nomatch x), h⟩⟩ hu
theorem tuple_eq2 (l b : Addr) (x y z v : Str) (tx ty tz tv : Tok) :
    Meets (Builtin.«tuple.__eq__» ⟨[.ref l, .ref b], []⟩)
      (fun A R s => s.heap.get? l = some (tupO x tx y ty) ∧ s.heap.get? b = some (tupO z tz v tv) ∧ R (.ok (.ret (.bool (tCmp .Eq x y z v)))) s) :=
  .of_wp fun prog w A R s h => by
    obtain ⟨hp, g, d, tk, os⟩ := s; obtain ⟨hl, hb, h⟩ := h
    have f2 := AutoSeq1.sub_tuple_tuple
    unfold tCmp at h
    wp_walk using wpAny_loadPart' hl, wpAny_loadPart' hb, wpAny_forIn_list _ (fun rest b s' => b.1 = none ∧ s' = ⟨hp, g, d, tk, os⟩ ∧
      (rest = [(.str x tx, .str z tz), (.str y ty, .str v tv)] ∨ (rest = [(.str y ty, .str v tv)] ∧ (x == z) = true) ∨ (rest = [] ∧ (x == z) = true ∧ (y == v) = true))) _
    case turn =>
      rintro ⟨a, c⟩ rest b s' ⟨hb', rfl, hz⟩
      rcases hz with hz | ⟨hz, e1⟩ | ⟨hz, _⟩
      · injection hz with hz1 hz2
        injection hz1 with ha hc
        subst ha hc hz2
        refine wpAny_bind (eqStr ?_)
        cases e1 : x == z with
        | true =>
          wp_walk
          exact ⟨rfl, rfl, .inr (.inl ⟨rfl, rfl⟩)⟩
        | false =>
          wp_walk
          rw [e1] at h
          exact ⟨_, rfl, by simpa [sCmp] using h⟩
      · injection hz with hz1 hz2
        injection hz1 with ha hc
        subst ha hc hz2
        refine wpAny_bind (eqStr ?_)
        cases e2 : y == v with
        | true =>
          wp_walk
          exact ⟨rfl, rfl, .inr (.inr ⟨rfl, e1, rfl⟩)⟩
        | false =>
          wp_walk
          rw [e1, e2] at h
          exact ⟨_, rfl, by simpa [sCmp] using h⟩
      · cases hz
    case fin =>
      rintro ⟨b1, b2⟩ s' ⟨hb', rfl, hz⟩
      rcases hz with hz | ⟨hz, e1⟩ | ⟨hz, e1, e2⟩
      · cases hz
      · cases hz
      simp only at hb'
      subst hb'
      wp_walk
      rw [e1, e2] at h
      exact ⟨_, rfl, by simpa [Builtin.Tuple.tupleCompareSizes, eCmp] using h⟩
    case h =>
      exact ⟨rfl, rfl, .inl rfl⟩
theorem rc_eq {prog : Program} {E : Value → Shared → Prop} {Q : Value → Shared → Prop} {s : Shared} {l b : Addr} {x y z v : Str} {tx ty tz tv : Tok} (hl : s.heap.get? l = some (tupO x tx y ty)) (hb : s.heap.get? b = some (tupO z tz v tv)) (hu : A.units < cLine)
    (h : Q (.bool (tCmp .Eq x y z v)) s) : wpAny (model prog w) A (compareOp .Eq (.ref l) (.ref b)) Q E s :=
  richCompare_meets_room (op := .Eq) ⟨_, hl, rfl⟩ ⟨_, hb, rfl⟩ F.slot_tuple_eq F.entry_tuple_eq (F.args_tuple_eq_2 _ _) (tuple_eq2 l b x y z v tx ty tz tv)
    ⟨hl, hb, show Value.bool (tCmp .Eq x y z v) ≠ Value.notImplemented ∧ Q (.bool (tCmp .Eq x y z v)) s from ⟨(fun x => nomatch x), h⟩⟩ hu
theorem tuple_ne2 (l b : Addr) (x y z v : Str) (tx ty tz tv : Tok) :
    Meets (Builtin.«tuple.__ne__» ⟨[.ref l, .ref b], []⟩)
      (fun A R s => s.heap.get? l = some (tupO x tx y ty) ∧ s.heap.get? b = some (tupO z tz v tv) ∧ R (.ok (.ret (.bool (tCmp .NotEq x y z v)))) s) :=
  .of_wp fun prog w A R s h => by
    obtain ⟨hp, g, d, tk, os⟩ := s; obtain ⟨hl, hb, h⟩ := h
    have f2 := AutoSeq1.sub_tuple_tuple
    unfold tCmp at h
    wp_walk using wpAny_loadPart' hl, wpAny_loadPart' hb, wpAny_forIn_list _ (fun rest b s' => b.1 = none ∧ s' = ⟨hp, g, d, tk, os⟩ ∧
      (rest = [(.str x tx, .str z tz), (.str y ty, .str v tv)] ∨ (rest = [(.str y ty, .str v tv)] ∧ (x == z) = true) ∨ (rest = [] ∧ (x == z) = true ∧ (y == v) = true))) _
    case turn =>
      rintro ⟨a, c⟩ rest b s' ⟨hb', rfl, hz⟩
      rcases hz with hz | ⟨hz, e1⟩ | ⟨hz, _⟩
      · injection hz with hz1 hz2
        injection hz1 with ha hc
        subst ha hc hz2
        refine wpAny_bind (eqStr ?_)
        cases e1 : x == z with
        | true =>
          wp_walk
          exact ⟨rfl, rfl, .inr (.inl ⟨rfl, rfl⟩)⟩
        | false =>
          wp_walk
          rw [e1] at h
          exact ⟨_, rfl, by simpa [sCmp] using h⟩
      · injection hz with hz1 hz2
        injection hz1 with ha hc
        subst ha hc hz2
        refine wpAny_bind (eqStr ?_)
        cases e2 : y == v with
        | true =>
          wp_walk
          exact ⟨rfl, rfl, .inr (.inr ⟨rfl, e1, rfl⟩)⟩
        | false =>
          wp_walk
          rw [e1, e2] at h
          exact ⟨_, rfl, by simpa [sCmp] using h⟩
      · cases hz
    case fin =>
      rintro ⟨b1, b2⟩ s' ⟨hb', rfl, hz⟩
      rcases hz with hz | ⟨hz, e1⟩ | ⟨hz, e1, e2⟩
      · cases hz
      · cases hz
      simp only at hb'
      subst hb'
      wp_walk
      rw [e1, e2] at h
      exact ⟨_, rfl, by simpa [Builtin.Tuple.tupleCompareSizes, eCmp] using h⟩
    case h =>
      exact ⟨rfl, rfl, .inl rfl⟩
theorem rc_ne {prog : Program} {E : Value → Shared → Prop} {Q : Value → Shared → Prop} {s : Shared} {l b : Addr} {x y z v : Str} {tx ty tz tv : Tok} (hl : s.heap.get? l = some (tupO x tx y ty)) (hb : s.heap.get? b = some (tupO z tz v tv)) (hu : A.units < cLine)
    (h : Q (.bool (tCmp .NotEq x y z v)) s) : wpAny (model prog w) A (compareOp .NotEq (.ref l) (.ref b)) Q E s :=
  richCompare_meets_room (op := .NotEq) ⟨_, hl, rfl⟩ ⟨_, hb, rfl⟩ F.slot_tuple_ne F.entry_tuple_ne (F.args_tuple_ne_2 _ _) (tuple_ne2 l b x y z v tx ty tz tv)
    ⟨hl, hb, show Value.bool (tCmp .NotEq x y z v) ≠ Value.notImplemented ∧ Q (.bool (tCmp .NotEq x y z v)) s from ⟨(fun x => nomatch x), h⟩⟩ hu
end Mine
namespace Mine
open PySem PySem.W PySem.W.X PyProof.Rows
open PySem.Builtin
set_option maxHeartbeats 0
variable {w : World} {A : Around} {R : Result → Shared → Prop} {h : Heap} {g : Array GenState} {dr : Drawn} {tk : Nat} {os : OsState}
theorem Rep.initN {T : DT} {ps1 ps2 : Array Value} (T0 : DT) (G : Gd w h) (own : ∀ p ∈ T0, At w h p.1 p.2) (nd : (T0.map (·.2.cls)).Nodup) (hc : T0.all (fun p => !(noneO p.2)) = true) (t1 : TbA w h 63 ps1) (t2 : TbA w h 70 ps2)
    (e : T = T0 ++ [(63, tableObj ps1), (70, tableObj ps2)]) : ∃ Z, Rep (KTw w) h (T.map (·.1)) h T Z := Rep.initB T0 G own (nodup_cls own nd) hc t1 t2 e
theorem lenstr_spec {x : Str} {t : Tok} (hA : A.handled = none) (G : Gd w h) (hx : x.length ≤ 10000)
    (k : ∀ h' tk' u, Kp [] h h' → R (.ok (.ret (.int x.length u))) ⟨h', g, dr, tk', os⟩) :
    codeAny (model pw w) A (.call (.builtin "len") ⟨[.str x t], []⟩) R ⟨h, g, dr, tk, os⟩ := by
  obtain ⟨Z, D⟩ : ∃ Z, Rep (KTw w) h [] h [] Z := ⟨_, Rep.init (T := []) G (by simp) (by simp)⟩
  refine callB (by kernel_rfl) ?_
  refine top_any (R := R) (fun _ => .done .next) ?_
  intro θ
  refine eng 0 0 (by exact hA) D (by kernel_rfl) ?_
  intro χ1 h1 D1
  refine finQ (f := .done .next) (by kernel_rfl) ?_
  intro _ _
  refine codeAny_builtin (b := Builtin.«len») (entryFor_of_tree (by kernel_rfl)) ?_
  unfold Builtin.«len»
  refine wpAny_bind (m := oneArg "len" _) (wpAny_pure ?_)
  refine wpAny_bind ?_
  refine top_any (R := R) (fun v => match v with | some v => .done (.ret v) | none => .done .next) ?_
  intro θ
  refine eng 4 0 (by exact hA) D1 (by kernel_rfl) ?_
  intro χ2 h2 D2
  refine finInt x.length (by kernel_rfl) (by kernel_rfl) ?_
  intro u a ha
  cases a with
  | none => cases ha
  | some v =>
    cases ha
    show wpAny _ _ (holding _ (asIndex (.int _ _)) >>= _) _ _ _
    refine wpAny_bind (wpAny_holding (wpAny_pure ?_))
    refine wpAny_bind (wpAny_letGo ?_)
    rw [if_neg (by omega), if_neg (by omega)]
    refine wpAny_bind (wpAny_mkInt (wpAny_pure ?_))
    exact k h2 _ _ D2.keep
theorem lenlst_spec {l : Addr} {vs : List Value} {n : Nat} (hA : A.handled = none) (G : Gd w h) (hl : At w h l (lstX vs.toArray n)) (hx : vs.length ≤ 10000)
    (k : ∀ h' tk' u, Kp [] h h' → R (.ok (.ret (.int vs.length u))) ⟨h', g, dr, tk', os⟩) :
    codeAny (model pw w) A (.call (.builtin "len") ⟨[.ref l], []⟩) R ⟨h, g, dr, tk, os⟩ := by
  obtain ⟨Z, D⟩ : ∃ Z, Rep (KTw w) h [l] h [(l, lstX vs.toArray n)] Z := Rep.initC (T := [(l, lstX vs.toArray n)]) G (oc hl on) (by kernel_rfl)
  refine callB (by kernel_rfl) ?_
  refine top_any (R := R) (fun _ => .done .next) ?_
  intro θ
  refine eng 0 0 (by exact hA) D (by kernel_rfl) ?_
  intro χ1 h1 D1
  refine finQ (f := .done .next) (by kernel_rfl) ?_
  intro _ _
  refine codeAny_builtin (b := Builtin.«len») (entryFor_of_tree (by kernel_rfl)) ?_
  unfold Builtin.«len»
  refine wpAny_bind (m := oneArg "len" _) (wpAny_pure ?_)
  refine wpAny_bind ?_
  refine top_any (R := R) (fun v => match v with | some v => .done (.ret v) | none => .done .next) ?_
  intro θ
  refine eng 7 4295032833 (by exact hA) D1 (by kernel_rfl) ?_
  intro χ2 h2 D2
  refine finInt vs.length (by kernel_rfl) (by kernel_rfl) ?_
  intro u a ha
  cases a with
  | none => cases ha
  | some v =>
    cases ha
    show wpAny _ _ (holding _ (asIndex (.int _ _)) >>= _) _ _ _
    refine wpAny_bind (wpAny_holding (wpAny_pure ?_))
    refine wpAny_bind (wpAny_letGo ?_)
    rw [if_neg (by omega), if_neg (by omega)]
    refine wpAny_bind (wpAny_mkInt (wpAny_pure ?_))
    exact k h2 _ _ (Rep.kpF 0 [true] D D2 (by kernel_rfl))
abbrev shF (a0 a1 a2 a3 : Int) (b0 b1 b2 b3 : Tok) (p r : Addr) (f : Int) (ft : Tok) (x : Str) (xt : Tok) (en : Nat) : Obj := fmO #[⟨a0, .str "place" b0, .ref p⟩, ⟨a1, .str "first" b1, .int f ft⟩, ⟨a2, .str "row" b2, .ref r⟩, ⟨a3, .str "text" b3, .str x xt⟩] en
theorem shows_b {E : Value → Shared → Prop} {Q : Flow → Shared → Prop} {p d r F : Addr} {n nr en : Nat} {hs f a0 a1 a2 a3 : Int} {b0 b1 b2 b3 xt tk1 tk2 ft : Tok} {qs rs : List Addr} {cs : List (Str × Str)} {ps1 ps2 : Array Value}
    (hA : A.handled = none) (hd : A.depth + 30 < recursionLimit) (hu : A.units + 200 < cLine) (G : Gd w h) (hp : At w h (p + 182) (accO d qs n)) (hdd : At w h d (dctO hs tk1 f tk2)) (hr : Row w h qs cs) (hsh : Short cs) (hf : f = 0 ∨ f = 1 ∨ f = 2) (har : At w h r (lstO (rs.map .ref) nr)) (hrr : Row w h rs cs) (ht1 : TbA w h 63 ps1) (ht2 : TbA w h 70 ps2)
    (hF : At w h F (shF a0 a1 a2 a3 b0 b1 b2 b3 (p + 182) r f ft (txt cs) xt en))
    (k : ∀ h' g' tk' ps1' ps2', Kp [63, 70] h h' → TbA w h' 63 ps1' → TbA w h' 70 ps2' → (AllBare g → AllBare g') → wpAny (model pw w) A (execs ((bodyAt (fdOf (slook (KTw w) 166))).drop 2) (envAt 166 (fdOf (slook (KTw w) 166)) F)) Q E ⟨h', g', dr, tk', os⟩) :
    wpAny (model pw w) A (execs ((bodyAt (fdOf (slook (KTw w) 166))).drop 1) (envAt 166 (fdOf (slook (KTw w) 166)) F)) Q E ⟨h, g, dr, tk, os⟩ := by
  obtain ⟨Z, D⟩ : ∃ Z, Rep (KTw w) h [F, p + 182, d, r, 63, 70] h [(F, shF a0 a1 a2 a3 b0 b1 b2 b3 (p + 182) r f ft (txt cs) xt en), (p + 182, accO d qs n), (d, dctO hs tk1 f tk2), (r, lstO (rs.map .ref) nr), (63, tableObj ps1), (70, tableObj ps2)] Z :=
    Rep.initN [(F, shF a0 a1 a2 a3 b0 b1 b2 b3 (p + 182) r f ft (txt cs) xt en), (p + 182, accO d qs n), (d, dctO hs tk1 f tk2), (r, lstO (rs.map .ref) nr)] G (oc hF (oc hp (oc hdd (oc har on)))) (by simp) rfl ht1 ht2 rfl
  have hl := hr.length
  have hl2 := hrr.length
  have hs1 := hsh.1
  have hs2 := hsh.pies
  refine atCut 1 ?_
  refine top_execs (R := fun _ _ => True) ?_
  intro θ
  refine eng 9 1099511627776 (by exact hA) D (by kernel_rfl) ?_
  intro χ1 h1 D1
  refine hook (c' := .call (.builtin "str.__new__") ⟨[.type "str", .ref (p + 182)], []⟩) (by kernel_rfl) ?_
  have K1 : Kp [] h h1 := Rep.kpF 0 [true, true, true, true, true, true] D D1 (by kernel_rfl)
  refine strnew_spec (d := d) (n := n) (hs := hs) (f := f) (tk1 := tk1) (tk2 := tk2) (qs := qs) (cs := cs) (ac_handled hA) (depL (b := A.depth) 0 (by kernel_rfl) hd rfl) (depL (b := A.units) 1 (by kernel_rfl) hu rfl) D1.gd (D1.at_ 1 (by kernel_rfl)) (D1.at_ 2 (by kernel_rfl)) (hr.kp0 K1) hsh (TbA.tb70 D1.gd ⟨D1.at_ 5 (by kernel_rfl), ht2.2⟩) ?_
  intro h2 g2 tk2' t2 K2 q2 gs2
  obtain ⟨ps2', a2', o2⟩ := q2.tbA ht2.1.2
  refine Exists.elim ((D1.turn (j := 5) (x := (70, tableObj ps2)) (by kernel_rfl) K2 a2'.1).ex) ?_
  intro Z2 D2
  refine eng 8 281474976710656 (by exact hA) D2 (by kernel_rfl) ?_
  intro χ3 h3 D3
  refine eng2 "special-get-raises" 1 0 1 0 (by exact hA) D3 (by kernel_rfl) ?_
  intro χ4 h4 D4
  refine hook (c' := .call (.builtin "str.__ne__") ⟨[.str (txt cs) t2, .str (txt cs) xt], []⟩) (by kernel_rfl) ?_
  refine strne_spec false (by simp) ?_
  refine eng 6 4294967296 (by exact hA) D4 (by kernel_rfl) ?_
  intro χ5 h5 D5
  have K5 : Kp [63, 70] h h5 := Rep.kpF 0 [true, true, true, true, false, false] D D5 (by kernel_rfl)
  have r5 : Row w h5 qs cs := hr.tb ⟨TbA.tb63 G ht1, TbA.tb70 G ht2⟩ K5
  refine hook (c' := .call (.builtin "len") ⟨[.ref (p + 182)], []⟩) (by kernel_rfl) ?_
  refine lencall_spec (d := d) (n := n) (hs := hs) (f := f) (tk1 := tk1) (tk2 := tk2) (qs := qs) (cs := cs) (ac_handled hA) (depL (b := A.depth) 0 (by kernel_rfl) hd rfl) D5.gd (D5.at_ 1 (by kernel_rfl)) (D5.at_ 2 (by kernel_rfl)) r5 hsh (by omega) (by omega) (TbA.tb63 D5.gd ⟨D5.at_ 4 (by kernel_rfl), ht1.2⟩) ?_
  intro h6 g6 tk6 t6 K6 q6 gs6
  obtain ⟨ps1', a6, o6⟩ := q6.tbA ht1.1.2
  refine Exists.elim ((D5.turn (j := 4) (x := (63, tableObj ps1)) (by kernel_rfl) K6 a6.1).ex) ?_
  intro Z6 D6
  refine eng 9 72057594037993472 (by exact hA) D6 (by kernel_rfl) ?_
  intro χ7 h7 D7
  refine hook (c' := .call (.builtin "len") ⟨[.str (txt cs) xt], []⟩) (by kernel_rfl) ?_
  have hlen : (txt cs).length ≤ 10000 := by
    have h1 := hsh.sz cs.length
    rw [List.take_length, sum_txt] at h1
    omega
  refine lenstr_spec (ac_handled hA) D7.gd hlen ?_
  intro h8 tk8 u8 K8
  refine Exists.elim ((D7.same K8).ex) ?_
  intro Z8 D8
  refine eng 7 0 (by exact hA) D8 (by kernel_rfl) ?_
  intro χ9 h9 D9
  refine eng2 "special-get-raises" 1 0 1 0 (by exact hA) D9 (by kernel_rfl) ?_
  intro χ10 h10 D10
  refine hook2 (fun u v => .call (.builtin "int.__ne__") ⟨[.int (f + (cs.map sz).sum) u, .int (f + (txt cs).length) v], []⟩) (by kernel_rfl) ?_
  intro u10 v10
  refine intne_spec false (by rw [sum_txt]; simp) ?_
  refine eng 21 262017422529123235836818234527787081793792 (by exact hA) D10 (by kernel_rfl) ?_
  intro χ11 h11 D11
  refine hook (c' := .call (.ref 98) ⟨[.ref (p + 182)], []⟩) (by kernel_rfl) ?_
  refine pc_spec (d := d) (qs := qs) (n := n) (ac_handled hA) (depL (b := A.depth) 0 (by kernel_rfl) hd rfl) D11.gd (D11.at_ 1 (by kernel_rfl)) ?_
  intro h12 tk12 t12 K12
  refine Exists.elim ((D11.same K12).ex) ?_
  intro Z12 D12
  refine eng 7 1099511627776 (by exact hA) D12 (by kernel_rfl) ?_
  intro χ13 h13 D13
  refine hook (c' := .call (.builtin "len") ⟨[.ref r], []⟩) (by kernel_rfl) ?_
  refine lenlst_spec (vs := rs.map Value.ref) (n := nr) (ac_handled hA) D13.gd (D13.at_ 3 (by kernel_rfl)) (by simp; omega) ?_
  intro h14 tk14 u14 K14
  refine Exists.elim ((D13.same K14).ex) ?_
  intro Z14 D14
  refine eng 2 0 (by exact hA) D14 (by kernel_rfl) ?_
  intro χ15 h15 D15
  refine eng2 "special-get-raises" 1 0 1 0 (by exact hA) D15 (by kernel_rfl) ?_
  intro χ16 h16 D16
  refine hook (c' := .call (.builtin "int.__ne__") ⟨[.int qs.length t12, .int (rs.map Value.ref).length u14], []⟩) (by kernel_rfl) ?_
  refine intne_spec false (by simp [hl, hl2]) ?_
  refine eng 0 0 (by exact hA) D16 (by kernel_rfl) ?_
  intro χ17 h17 D17
  refine finQ (f := .done .next) (by kernel_rfl) ?_
  have b1 := D17.at_ (a := 63) (o := tableObj ps1') 4 (by kernel_rfl)
  have b2 := D17.at_ (a := 70) (o := tableObj ps2') 5 (by kernel_rfl)
  exact k h17 g6 _ ps1' ps2' (Rep.kpF 0 [true, true, true, true, false, false] D D17 (by kernel_rfl)) ⟨b1, o6⟩ ⟨b2, o2⟩ fun x => gs6 (gs2 x)
end Mine
namespace Mine
open PySem PySem.W PySem.W.X PyProof.Rows
open PySem.Builtin PySem.SeqAt
set_option maxHeartbeats 0
variable {w : World} {A : Around} {R : Result → Shared → Prop} {h : Heap} {g : Array GenState} {dr : Drawn} {tk : Nat} {os : OsState}
abbrev cEnvAt (S : Scope) (C : Addr) (cl : List (Str × Addr)) (fd : FuncData) (F : Addr) : Env := cEnv S C fd.globals cl (fd.qualname ++ ".<locals>.") none fd.code (some F) fd.builtins
theorem eq_pieces {s : Shared} {a b : Addr} {c : Str × Str} (ha : Tup w s.heap a c) (hb : Tup w s.heap b c) (hu : A.units < cLine) : EqAt A s (.ref a) (.ref b) true := by
  obtain ⟨t1, t2, x⟩ := ha
  obtain ⟨t3, t4, y⟩ := hb
  by_cases e : a = b
  · subst e
    exact EqAt.same _
  · refine EqAt.of_refs e fun prog w' E Q hq => ?_
    refine rc_eq (prog := prog) (w := w') (x := c.1) (y := c.2) (z := c.1) (v := c.2) x.1 y.1 hu ?_
    have : tCmp .Eq c.1 c.2 c.1 c.2 = true := by simp [tCmp, eCmp]
    rw [this]; exact hq
theorem eq_rows {prog : Program} {w' : World} {E : Value → Shared → Prop} {Q : Value → Shared → Prop} {s : Shared} {l b : Addr} {qs rs : List Addr} {n n' : Nat} {cs : List (Str × Str)}
    (hl : s.heap.get? l = some (lstO (qs.map .ref) n)) (hb : s.heap.get? b = some (lstO (rs.map .ref) n')) (hq : Row w s.heap qs cs) (hr : Row w s.heap rs cs) (hu : A.units + 1 < cLine) (h : Q (.bool true) s) :
    wpAny (model prog w') A (compareOp .Eq (.ref l) (.ref b)) Q E s := by
  have h1 := hq.length
  have h2 := hr.length
  refine eq_listAt (items := (qs.map Value.ref).toArray) (items2 := (rs.map Value.ref).toArray) (e := fun _ => true) ⟨_, hl, rfl, n, rfl⟩ ⟨_, hb, rfl, n', rfl⟩ (by simp; omega) (by omega) (fun j h1' h2' => ?_) (by
    have : (List.range (qs.map Value.ref).toArray.size).all (fun _ => true) = true := List.all_eq_true.mpr fun _ _ => rfl
    rw [this]; exact h)
  simp only [List.size_toArray, List.length_map] at h1' h2'
  obtain ⟨c, hc, x⟩ := hq.get (i := j) (List.getElem?_eq_getElem h1')
  obtain ⟨c', hc', y⟩ := hr.get (i := j) (List.getElem?_eq_getElem h2')
  rw [hc] at hc'
  cases hc'
  simp only [List.getElem_toArray, List.getElem_map]
  exact eq_pieces x y (by show A.units + 1 < _; omega)
def boE (x : PySem.Expr) (i : Nat) : PySem.Expr := match x with
  | .BoolOp _ vs _ => vs.getD i noE
  | _ => noE
def boP (x : PySem.Expr) : Pos := match x with
  | .BoolOp _ _ p => p
  | _ => default
theorem tw_len {α : Type} (p : α → Bool) (l : List α) : (l.takeWhile p).length ≤ l.length := (List.takeWhile_prefix p).length_le
theorem tw_self {α : Type} {p : α → Bool} : ∀ {l : List α}, (∀ a ∈ l, p a = true) → l.takeWhile p = l
  | [], _ => rfl
  | x :: l, h => by
    rw [List.takeWhile_cons, h x (.head _)]
    simp only [if_true]
    rw [tw_self fun a ha => h a (.tail _ ha)]
theorem tw_self' {α : Type} {p : α → Bool} : ∀ {l : List α}, l.takeWhile p = l → ∀ a ∈ l, p a = true
  | [], _, _, h => (nomatch h)
  | x :: l, h, a, ha => by
    rw [List.takeWhile_cons] at h
    cases hx : p x with
    | false => rw [hx] at h; simp at h
    | true =>
      rw [hx] at h
      simp only [if_true, List.cons.injEq, true_and] at h
      rcases List.mem_cons.mp ha with rfl | ha
      · exact hx
      · exact tw_self' h a ha
theorem tw_drop {α : Type} (p : α → Bool) : ∀ l : List α, (l.drop (l.takeWhile p).length).takeWhile p = []
  | [] => rfl
  | x :: l => by
    rw [List.takeWhile_cons]
    cases hx : p x with
    | false => simp [hx]
    | true =>
      simp only [if_true, List.length_cons, List.drop_succ_cons]
      exact tw_drop p l
theorem strip_empty (x : Str) : ((strippedWs x).cps.toList == (Str.ofString "").cps.toList) = wsOk x := by
  have e0 : (Str.ofString "").cps.toList = [] := by decide
  rw [e0]
  generalize hl : x.cps.toList = l
  have hsz : x.length = l.length := by rw [← hl]; simp [Str.length]
  have hall : wsOk x = l.all Unicode.isSpace := by rw [← hl]; simp [wsOk]
  have hext : (PySem.stripped Unicode.isSpace true true x).cps = x.cps.extract (stripLo Unicode.isSpace true x) (stripHi Unicode.isSpace true x (stripLo Unicode.isSpace true x)) := rfl
  have hlo : stripLo Unicode.isSpace true x = (l.takeWhile Unicode.isSpace).length := by simp [stripLo, hl]
  have hhi : stripHi Unicode.isSpace true x (stripLo Unicode.isSpace true x) = l.length - ((l.drop (stripLo Unicode.isSpace true x)).reverse.takeWhile Unicode.isSpace).length := by simp [stripHi, hl, hsz]
  rw [hall]
  by_cases ha : l.all Unicode.isSpace = true
  · rw [ha]
    have hlo' : stripLo Unicode.isSpace true x = l.length := by
      rw [hlo, tw_self (fun a h => List.all_eq_true.mp ha a h)]
    unfold strippedWs
    split
    · rename_i hs
      unfold stripSame at hs
      simp only [Bool.and_eq_true, beq_iff_eq] at hs
      have : l.length = 0 := by rw [← hlo']; exact hs.1
      rw [hl, List.length_eq_zero_iff.mp this]; rfl
    · rw [hext, hhi, hlo']
      simp [hsz]
  · have ha' : l.all Unicode.isSpace = false := by simpa using ha
    rw [ha']
    have hlt : stripLo Unicode.isSpace true x < l.length := by
      rw [hlo]
      refine Nat.lt_of_le_of_ne (tw_len _ _) fun e => ha ?_
      refine List.all_eq_true.mpr fun a hm => ?_
      have := List.takeWhile_prefix Unicode.isSpace (l := l) |>.eq_of_length e
      exact tw_self' this a hm
    have hrv : ((l.drop (stripLo Unicode.isSpace true x)).reverse.takeWhile Unicode.isSpace).length < l.length - stripLo Unicode.isSpace true x := by
      have hle := tw_len Unicode.isSpace ((l.drop (stripLo Unicode.isSpace true x)).reverse)
      simp only [List.length_reverse, List.length_drop] at hle
      refine Nat.lt_of_le_of_ne hle fun e => ?_
      have e' : ((l.drop (stripLo Unicode.isSpace true x)).reverse.takeWhile Unicode.isSpace).length = (l.drop (stripLo Unicode.isSpace true x)).reverse.length := by simp [e]
      have h1 := tw_self' ((List.takeWhile_prefix Unicode.isSpace (l := (l.drop (stripLo Unicode.isSpace true x)).reverse)).eq_of_length e')
      have h2 : (l.drop (stripLo Unicode.isSpace true x)).takeWhile Unicode.isSpace = [] := by
        rw [hlo]
        exact tw_drop _ l
      cases hq : l.drop (stripLo Unicode.isSpace true x) with
      | nil =>
        have := congrArg List.length hq
        simp at this
        omega
      | cons a t =>
        rw [hq] at h1 h2
        have h3 := h1 a (by simp)
        rw [List.takeWhile_cons, h3] at h2
        cases h2
    have hne : (strippedWs x).cps.toList ≠ [] := by
      unfold strippedWs
      split
      · rw [hl]; intro e; rw [e] at hlt; exact Nat.not_lt_zero _ hlt
      · rw [hext, hhi]
        intro e
        have := congrArg List.length e
        simp only [Array.length_toList, Array.size_extract, List.length_nil] at this
        have hs2 : x.cps.size = l.length := hsz
        omega
    simpa using hne
theorem strip_spec {prog : Program} {x : Str} {t : Tok} (hx : x.length ≤ 10000) (k : ∀ tk' v, R (.ok (.ret (.str (strippedWs x) v))) ⟨h, g, dr, tk', os⟩) :
    codeAny (model prog w) A (.call (.builtin "str.strip") ⟨[.str x t], []⟩) R ⟨h, g, dr, tk, os⟩ := by
  refine hk_gives F.slot_str_strip (typeIs_str _ _ _) F.entry_str_strip (F.args_str_strip_1 _) (gives_str_strip x t) ?_
  unfold strippedWs at k
  split
  · rename_i hs
    rw [if_pos hs] at k
    exact k tk t
  · rename_i hs
    rw [if_neg hs] at k
    refine ⟨?_, k _ _⟩
    show (x.cps.extract _ _).size ≤ 2 ^ 24
    rw [Array.size_extract]
    have : x.cps.size ≤ 10000 := hx
    omega
theorem shows_c {E : Value → Shared → Prop} {Q : Flow → Shared → Prop} {p d r F : Addr} {n nr en : Nat} {hs f a0 a1 a2 a3 : Int} {b0 b1 b2 b3 xt tk1 tk2 ft : Tok} {qs rs : List Addr} {cs : List (Str × Str)} {ps1 ps2 : Array Value}
    (hA : A.handled = none) (hd : A.depth + 30 < recursionLimit) (hu : A.units + 200 < cLine) (G : Gd w h) (hp : At w h (p + 182) (accO d qs n)) (hdd : At w h d (dctO hs tk1 f tk2)) (hr : Row w h qs cs) (hsh : Short cs) (hf : f = 0 ∨ f = 1 ∨ f = 2) (har : At w h r (lstO (rs.map .ref) nr)) (hrr : Row w h rs cs) (ht1 : TbA w h 63 ps1) (ht2 : TbA w h 70 ps2)
    (hF : At w h F (shF a0 a1 a2 a3 b0 b1 b2 b3 (p + 182) r f ft (txt cs) xt en))
    (k : ∀ h' g' tk' ps1' ps2', Kp [63, 70] h h' → TbA w h' 63 ps1' → TbA w h' 70 ps2' → (AllBare g → AllBare g') → Q (.ret (.bool true)) ⟨h', g', dr, tk', os⟩) :
    wpAny (model pw w) A (execs ((bodyAt (fdOf (slook (KTw w) 166))).drop 2) (envAt 166 (fdOf (slook (KTw w) 166)) F)) Q E ⟨h, g, dr, tk, os⟩ := by
  obtain ⟨Z, D⟩ : ∃ Z, Rep (KTw w) h [F, p + 182, d, r, 63, 70] h [(F, shF a0 a1 a2 a3 b0 b1 b2 b3 (p + 182) r f ft (txt cs) xt en), (p + 182, accO d qs n), (d, dctO hs tk1 f tk2), (r, lstO (rs.map .ref) nr), (63, tableObj ps1), (70, tableObj ps2)] Z :=
    Rep.initN [(F, shF a0 a1 a2 a3 b0 b1 b2 b3 (p + 182) r f ft (txt cs) xt en), (p + 182, accO d qs n), (d, dctO hs tk1 f tk2), (r, lstO (rs.map .ref) nr)] G (oc hF (oc hp (oc hdd (oc har on)))) (by simp) rfl ht1 ht2 rfl
  have hl := hr.length
  have hs1 := hsh.1
  refine atRet (by kernel_rfl) ?_
  generalize hx : retE ((bodyAt (fdOf (slook (KTw w) 166))).drop 2) = x
  refine evalTo (.BoolOp .And [boE x 0, boE x 1] (boP x)) _ (by rw [← hx]; kernel_rfl) rfl ?_
  subst hx
  refine BoolOp_and ?_
  refine atCmp (by kernel_rfl) (by kernel_rfl) ?_
  refine wpAny_mono (Q := fun v s' => ∃ l nl h' tk', v = .ref l ∧ s' = (⟨h', g, dr, tk', os⟩ : Shared) ∧ Kp [] h h' ∧ Gd w h' ∧ At w h' l (lstO (qs.map .ref) nl)) ?_ ?_ (fun _ _ x => x)
  · refine top_eval (R := fun _ _ => True) ?_
    refine eng 11 144115188109410560 (by exact hA) D (by kernel_rfl) ?_
    intro χ1 h1 D1
    refine eng2 "special-get-raises" 1 0 1 0 (by exact hA) D1 (by kernel_rfl) ?_
    intro χ2 h2 D2
    refine eng 9 281474976711168 (by exact hA) D2 (by kernel_rfl) ?_
    intro χ3 h3 D3
    refine hook (c' := .compStart (piE ⟨61, 12, 61, 17⟩ ⟨61, 22, 61, 27⟩ (.Name "place" ⟨61, 31, 61, 36⟩) ⟨61, 11, 61, 37⟩) 0 (.ref (adrAt χ3.T 2)) (.ref (adrAt χ3.T 1)) (cEnvAt piS (adrAt χ3.T 0) [] (fdOf (slook (KTw w) 166)) F)) (by kernel_rfl) ?_
    have a40 := D3.at_ (a := adrAt χ3.T 0) (o := nsO #[] 0) 0 (by kernel_rfl)
    have a41 := D3.at_ (a := adrAt χ3.T 1) (o := lstX #[] 0) 1 (by kernel_rfl)
    have a42 := D3.at_ (a := adrAt χ3.T 2) (o := liO (.ref (p + 182)) (.int 0 0)) 2 (by kernel_rfl)
    have a44 := D3.at_ (a := p + 182) (o := accO d qs n) 4 (by kernel_rfl)
    obtain ⟨Zc, Dc⟩ : ∃ Z, Rep (KTw w) h3 [adrAt (TT D3) 0, adrAt (TT D3) 1, adrAt (TT D3) 2] h3 [(adrAt (TT D3) 0, nsO #[] 0), (adrAt (TT D3) 1, lstX #[] 0), (adrAt (TT D3) 2, liO (.ref (p + 182)) (.int 0 0))] Z := Rep.initC (T := [(adrAt (TT D3) 0, nsO #[] 0), (adrAt (TT D3) 1, lstX #[] 0), (adrAt (TT D3) 2, liO (.ref (p + 182)) (.int 0 0))]) D3.gd (oc a40 (oc a41 (oc a42 on))) (by kernel_rfl)
    refine comp_id (so := accO d qs n) (src := p + 182) (ns := n) (na := 0) (en := 0) (qs := qs) (ti := 0) (ac_handled hA) rfl (by omega) Dc a44 (by
      simp only [List.mem_cons, List.not_mem_nil, or_false, not_or]
      exact ⟨ne_of_cls a44.1 a40.1 (by kernel_rfl), ne_of_cls a44.1 a41.1 (by kernel_rfl), ne_of_cls a44.1 a42.1 (by kernel_rfl)⟩) ?_
    intro h5 tk5 es5 en5 na5 v5 K5 o5 a50 a51 a52
    refine Exists.elim (D3.turnL [(0, nsO es5 en5), (1, lstO (qs.map .ref) na5), (2, liO .none v5)] K5 (by kernel_rfl) (by kernel_rfl) (oc a50.1 (oc a51.1 (oc a52.1 on)))) ?_
    intro Z5 D5
    rcases o5 with rfl | ⟨h1', t1, v1, rfl⟩
    · skip
      refine eng 1 1 (by exact hA) D5 (by kernel_rfl) ?_
      intro χ6 h6 D6
      refine finQ (f := .done (.ret (.ref (adrAt (TT D3) 1)))) (by kernel_rfl) ?_
      exact ⟨_, na5, h6, _, rfl, rfl, Rep.kpF 3 [true, true, true, true, true, true] D D6 (by kernel_rfl), D6.gd, D6.at_ (a := adrAt (TT D3) 1) (o := lstO (qs.map .ref) na5) 1 (by kernel_rfl)⟩
    · skip
      refine eng 5 16842753 (by exact hA) D5 (by kernel_rfl) ?_
      intro χ6 h6 D6
      refine finQ (f := .done (.ret (.ref (adrAt (TT D3) 1)))) (by kernel_rfl) ?_
      exact ⟨_, na5, h6, _, rfl, rfl, Rep.kpF 3 [true, true, true, true, true, true] D D6 (by kernel_rfl), D6.gd, D6.at_ (a := adrAt (TT D3) 1) (o := lstO (qs.map .ref) na5) 1 (by kernel_rfl)⟩
  rintro v s' ⟨l, nl, h6, tk6, rfl, rfl, K6, G6, aL⟩
  have bF := hF.kp K6 (by simp)
  have bp := hp.kp K6 (by simp)
  have bd := hdd.kp K6 (by simp)
  have br := har.kp K6 (by simp)
  have t1' : TbA w h6 63 ps1 := ⟨ht1.1.kp K6 (by simp), ht1.2⟩
  have t2' : TbA w h6 70 ps2 := ⟨ht2.1.kp K6 (by simp), ht2.2⟩
  clear D
  obtain ⟨Z, D⟩ : ∃ Z, Rep (KTw w) h6 [F, p + 182, d, r, 63, 70] h6 [(F, shF a0 a1 a2 a3 b0 b1 b2 b3 (p + 182) r f ft (txt cs) xt en), (p + 182, accO d qs n), (d, dctO hs tk1 f tk2), (r, lstO (rs.map .ref) nr), (63, tableObj ps1), (70, tableObj ps2)] Z :=
    Rep.initN [(F, shF a0 a1 a2 a3 b0 b1 b2 b3 (p + 182) r f ft (txt cs) xt en), (p + 182, accO d qs n), (d, dctO hs tk1 f tk2), (r, lstO (rs.map .ref) nr)] G6 (oc bF (oc bp (oc bd (oc br on)))) (by simp) rfl t1' t2' rfl
  refine top_eval (R := fun _ _ => True) ?_
  intro θ
  refine eng 2 256 (by exact hA) D (by kernel_rfl) ?_
  intro χ7 h7 D7
  refine finQ (f := .done (.ret (.ref r))) (by kernel_rfl) ?_
  have K7 : Kp [] h6 h7 := Rep.kpF 0 [true, true, true, true, true, true] D D7 (by kernel_rfl)
  have K67 : Kp [] h h7 := K6.trans K7 fun _ _ _ q => q
  refine eq_rows (qs := qs) (rs := rs) (cs := cs) (aL.kp K7 (by simp)).1 (br.kp K7 (by simp)).1 (hr.kp0 K67) (hrr.kp0 K67) (by omega) ?_
  refine wpAny_truthy_bool ?_
  rw [if_pos rfl]
  refine BoolOp_one ?_
  refine atCmp (by kernel_rfl) (by kernel_rfl) ?_
  refine top_eval (R := fun _ _ => True) ?_
  intro θ
  refine eng 21 262017422529123235836818234527787081793792 (by exact hA) D7 (by kernel_rfl) ?_
  intro χ8 h8 D8
  refine hook (c' := .call (.ref 90) ⟨[.ref (p + 182)], []⟩) (by kernel_rfl) ?_
  have K8 : Kp [] h6 h8 := Rep.kpF 0 [true, true, true, true, true, true] D D8 (by kernel_rfl)
  refine ow_spec (d := d) (n := n) (hs := hs) (f := f) (tk1 := tk1) (tk2 := tk2) (qs := qs) (cs := cs) (ps1 := ps1) (ps2 := ps2) (ac_handled hA) (depL (b := A.depth) 0 (by kernel_rfl) hd rfl) (depL (b := A.units) 0 (by kernel_rfl) hu rfl) D8.gd (D8.at_ 1 (by kernel_rfl)) (D8.at_ 2 (by kernel_rfl)) (hr.kp0 (K6.trans K8 fun _ _ _ q => q)) hsh hf ⟨D8.at_ 4 (by kernel_rfl), ht1.2⟩ ⟨D8.at_ 5 (by kernel_rfl), ht2.2⟩ ?_
  intro h9 g9 tk9 ps1' ps2' K9 q1 q2 gs9
  refine Exists.elim (D8.turnL [(4, tableObj ps1'), (5, tableObj ps2')] K9 (by kernel_rfl) (by kernel_rfl) (oc q1.1.1 (oc q2.1.1 on))) ?_
  intro Z9 D9
  refine eng 1 0 (by exact hA) D9 (by kernel_rfl) ?_
  intro χ9' h9' D9'
  refine finQ (f := .done (.ret (.bool (f == 0 && wsOk (txt cs))))) (by kernel_rfl) ?_
  refine top_eval (R := fun _ _ => True) ?_
  intro θ
  refine eng 4 256 (by exact hA) D9' (by kernel_rfl) ?_
  intro χ10 h10 D10
  refine eng2 "special-get-raises" 1 0 1 0 (by exact hA) D10 (by kernel_rfl) ?_
  intro χ11 h11 D11
  refine hook2 (fun u v => .call (.builtin "int.__eq__") ⟨[.int f u, .int 0 v], []⟩) (by kernel_rfl) ?_
  intro u10 v10
  by_cases h0 : f = 0
  · subst h0
    refine inteq_spec true (by simp) ?_
    refine eng 6 65536 (by exact hA) D11 (by kernel_rfl) ?_
    intro χ12 h12 D12
    refine hook (c' := .call (.builtin "str.strip") ⟨[.str (txt cs) xt], []⟩) (by kernel_rfl) ?_
    have hlen : (txt cs).length ≤ 10000 := by
      have h1 := hsh.sz cs.length
      rw [List.take_length, sum_txt] at h1
      omega
    refine strip_spec hlen ?_
    intro tk13 v13
    refine eng 3 0 (by exact hA) D12 (by kernel_rfl) ?_
    intro χ14 h14 D14
    refine eng2 "special-get-raises" 1 0 1 0 (by exact hA) D14 (by kernel_rfl) ?_
    intro χ15 h15 D15
    refine hook2 (fun u v => .call (.builtin "str.__eq__") ⟨[.str (strippedWs (txt cs)) u, .str (Str.ofString "") v], []⟩) (by kernel_rfl) ?_
    intro u15 v15
    refine streq_spec (wsOk (txt cs)) (strip_empty _) ?_
    refine eng 0 0 (by exact hA) D15 (by kernel_rfl) ?_
    intro χ16 h16 D16
    refine finQ (f := .done (.ret (.bool (wsOk (txt cs))))) (by kernel_rfl) ?_
    refine top_any (R := fun _ _ => True) (fun v => .done (.ret v)) ?_
    intro θ
    refine eng 0 0 (by exact hA) D16 (by kernel_rfl) ?_
    intro χ17 h17 D17
    refine finQ (f := .done (.ret (.bool (Value.bool ((0 : Int) == 0 && wsOk (txt cs)) == Value.bool (wsOk (txt cs)))))) (by kernel_rfl) ?_
    intro a ha; cases ha
    have e0 : (Value.bool ((0 : Int) == 0 && wsOk (txt cs)) == Value.bool (wsOk (txt cs))) = true := by
      have : ((0 : Int) == 0 && wsOk (txt cs)) = wsOk (txt cs) := by simp
      rw [this]
      exact beq_self_eq_true _
    rw [e0]
    have b1 := D17.at_ (a := 63) (o := tableObj ps1') 4 (by kernel_rfl)
    have b2 := D17.at_ (a := 70) (o := tableObj ps2') 5 (by kernel_rfl)
    have KX : Kp [63, 70] h6 h17 := Rep.kpF 0 [true, true, true, true, false, false] D D17 (by kernel_rfl)
    exact k h17 g9 _ ps1' ps2' ((K6.weak (ks' := [63, 70]) (by simp)).trans KX fun _ _ _ q => q) ⟨b1, q1.2⟩ ⟨b2, q2.2⟩ gs9
  · refine inteq_spec false (by simpa using h0) ?_
    refine eng 1 0 (by exact hA) D11 (by kernel_rfl) ?_
    intro χ12 h12 D12
    refine finQ (f := .done (.ret (.bool false))) (by kernel_rfl) ?_
    have e0 : (f == 0) = false := by simpa using h0
    dsimp only [θ, onRet]
    rw [e0, Bool.false_and]
    refine top_any (R := fun _ _ => True) (fun v => .done (.ret v)) ?_
    intro θ
    refine eng 0 0 (by exact hA) D12 (by kernel_rfl) ?_
    intro χ17 h17 D17
    refine finQ (f := .done (.ret (.bool true))) (by kernel_rfl) ?_
    intro a ha; cases ha
    have b1 := D17.at_ (a := 63) (o := tableObj ps1') 4 (by kernel_rfl)
    have b2 := D17.at_ (a := 70) (o := tableObj ps2') 5 (by kernel_rfl)
    have KX : Kp [63, 70] h6 h17 := Rep.kpF 0 [true, true, true, true, false, false] D D17 (by kernel_rfl)
    exact k h17 g9 _ ps1' ps2' ((K6.weak (ks' := [63, 70]) (by simp)).trans KX fun _ _ _ q => q) ⟨b1, q1.2⟩ ⟨b2, q2.2⟩ gs9
end Mine
namespace Mine
open PySem PySem.W PySem.W.X PyProof.Rows
set_option maxHeartbeats 0
variable {w : World} {A : Around} {R : Result → Shared → Prop} {h : Heap} {g : Array GenState} {dr : Drawn} {tk : Nat} {os : OsState}
theorem Short.pies' {cs : List (Str × Str)} (x : Short cs) : ((cs.map pie).map (·.length)).sum ≤ 10000 := Nat.le_trans x.pies (by decide)
theorem shows_spec {p d r : Addr} {n nr : Nat} {hs f : Int} {tk1 tk2 ft : Tok} {qs rs : List Addr} {cs : List (Str × Str)} {ps1 ps2 : Array Value}
    (hA : A.handled = none) (hd : A.depth + 40 < recursionLimit) (hu : A.units + 300 < cLine) (G : Gd w h) (hp : At w h (p + 182) (accO d qs n)) (hdd : At w h d (dctO hs tk1 f tk2)) (hr : Row w h qs cs) (hsh : Short cs) (hf : f = 0 ∨ f = 1 ∨ f = 2) (har : At w h r (lstO (rs.map .ref) nr)) (hrr : Row w h rs cs) (ht1 : TbA w h 63 ps1) (ht2 : TbA w h 70 ps2)
    (k : ∀ h' g' tk' ps1' ps2', Kp [63, 70] h h' → TbA w h' 63 ps1' → TbA w h' 70 ps2' → (AllBare g → AllBare g') → R (.ok (.ret (.bool true))) ⟨h', g', dr, tk', os⟩) :
    codeAny (model pw w) A (.call (.ref 166) ⟨[.ref (p + 182), .int f ft, .ref r], []⟩) R ⟨h, g, dr, tk, os⟩ := by
  obtain ⟨Z, D⟩ : ∃ Z, Rep (KTw w) h [p + 182, d, r, 63, 70] h [(p + 182, accO d qs n), (d, dctO hs tk1 f tk2), (r, lstO (rs.map .ref) nr), (63, tableObj ps1), (70, tableObj ps2)] Z := Rep.initB [(p + 182, accO d qs n), (d, dctO hs tk1 f tk2), (r, lstO (rs.map .ref) nr)] G (oc hp (oc hdd (oc har on))) (nodup_cls (w := w) (h := h) (oc hp (oc hdd (oc har on))) (by simp)) rfl ht1 ht2 rfl
  refine start (Q := fun _ _ => True) (E := fun _ _ => True) ?_
  refine eng 15 5212579269352127485334516888764416 (by exact hA) D (by kernel_rfl) ?_
  intro χ1 h1 D1
  refine enterB 166 0 D1 (by kernel_rfl) (by omega) ?_
  refine body ?_
  have rest : ∀ h2 tk2 F a0 a1 a2 a3 b0 b1 b2 b3 en xt, F = adrAt χ1.T 0 → Kp [] h h2 → Gd w h2 → At w h2 F (shF a0 a1 a2 a3 b0 b1 b2 b3 (p + 182) r f ft (txt cs) xt en) →
      wpAny (model pw w) (A.deeper (envAt 166 (fdOf (slook (KTw w) 166)) (adrAt χ1.T 0))) (execs ((bodyAt (fdOf (slook (KTw w) 166))).drop 1) (envAt 166 (fdOf (slook (KTw w) 166)) (adrAt χ1.T 0))) (fun f s' => R (.ok (.ret (valOf f))) s') (fun _ _ => False) ⟨h2, g, dr, tk2, os⟩ := by
    intro h2 tk2 F a0 a1 a2 a3 b0 b1 b2 b3 en xt eF K2 G2 aF
    rw [← eF]
    have t1 : TbA w h2 63 ps1 := ⟨ht1.1.kp K2 (by simp), ht1.2⟩
    have t2 : TbA w h2 70 ps2 := ⟨ht2.1.kp K2 (by simp), ht2.2⟩
    refine shows_b (by exact hA) (by show A.depth + 1 + 30 < _; omega) (by show A.units + 3 + 200 < _; omega) G2 (hp.kp K2 (by simp)) (hdd.kp K2 (by simp)) (hr.kp0 K2) hsh hf (har.kp K2 (by simp)) (hrr.kp0 K2) t1 t2 aF ?_
    intro h3 g3 tk3 ps1' ps2' K3 q1 q2 gs3
    have K23 : Kp [63, 70] h h3 := (K2.weak (ks' := [63, 70]) (by simp)).trans K3 fun _ _ _ q => q
    have T2 : Tbs h2 := ⟨TbA.tb63 G2 t1, TbA.tb70 G2 t2⟩
    have T0 : Tbs h := ⟨TbA.tb63 G ht1, TbA.tb70 G ht2⟩
    have G3 : Gd w h3 := fun a o e => K3.2 a o (G2 a o e) fun q => by
      have q : a = 63 ∨ a = 70 := by simpa using q
      rcases q with rfl | rfl
      · rw [Tbs.none.1] at e; cases e
      · rw [Tbs.none.2] at e; cases e
    refine shows_c (by exact hA) (by show A.depth + 1 + 30 < _; omega) (by show A.units + 3 + 200 < _; omega) G3 (hp.tb T0 K23 rfl) (hdd.tb T0 K23 rfl) (hr.tb T0 K23) hsh hf (har.tb T0 K23 rfl) (hrr.tb T0 K23) q1 q2 (aF.tb T2 K3 rfl) ?_
    intro h4 g4 tk4 ps1'' ps2'' K4 r1 r2 gs4
    exact k h4 g4 tk4 ps1'' ps2'' (K23.trans K4 fun _ _ _ q => q) r1 r2 fun x => gs4 (gs3 x)
  refine atCut 1 ?_
  refine top_execs (R := R) ?_
  intro θ
  refine eng 9 74075207770501545984 (by exact hA) D1 (by kernel_rfl) ?_
  intro χ2 h2 D2
  refine eng2 "special-get-raises" 1 0 1 0 (by exact hA) D2 (by kernel_rfl) ?_
  intro χ3 h3 D3
  refine eng 8 1099511628800 (by exact hA) D3 (by kernel_rfl) ?_
  intro χ4 h4 D4
  refine hook (c' := .compStart (caE ⟨58, 20, 58, 25⟩ ⟨58, 28, 58, 32⟩ ⟨58, 20, 58, 32⟩ ⟨58, 37, 58, 42⟩ ⟨58, 44, 58, 48⟩ ⟨58, 37, 58, 48⟩ ⟨58, 19, 58, 56⟩ (.Name "row" ⟨58, 52, 58, 55⟩)) 0 (.ref (adrAt χ4.T 2)) (.ref (adrAt χ4.T 1)) (cEnvAt caS (adrAt χ4.T 0) [] (fdOf (slook (KTw w) 166)) (adrAt χ4.T 3))) (by kernel_rfl) ?_
  have K4 : Kp [] h h4 := Rep.kpF 4 [true, true, true, true, true] D D4 (by kernel_rfl)
  have a40 := D4.at_ (a := adrAt χ4.T 0) (o := nsO #[] 0) 0 (by kernel_rfl)
  have a41 := D4.at_ (a := adrAt χ4.T 1) (o := lstX #[] 0) 1 (by kernel_rfl)
  have a42 := D4.at_ (a := adrAt χ4.T 2) (o := liO (.ref r) (.int 0 0)) 2 (by kernel_rfl)
  have a46 := D4.at_ (a := r) (o := lstO (rs.map .ref) nr) 6 (by kernel_rfl)
  refine comp_cat (so := lstO (rs.map .ref) nr) (src := r) (ns := nr) (na := 0) (en := 0) (qs := rs) (cs := cs) (ti := 0) (ac_handled hA) rfl hsh (hrr.kp0 K4) D4.gd a40 a41 a42 a46 (by
    have n1 := D4.apart (a := adrAt χ4.T 0) (o := nsO #[] 0) (b := r) (o' := lstO (rs.map .ref) nr) 0 6 (by kernel_rfl)
    have n2 := D4.apart (a := adrAt χ4.T 1) (o := lstX #[] 0) (b := r) (o' := lstO (rs.map .ref) nr) 1 6 (by kernel_rfl)
    have n3 := D4.apart (a := adrAt χ4.T 2) (o := liO (.ref r) (.int 0 0)) (b := r) (o' := lstO (rs.map .ref) nr) 2 6 (by kernel_rfl)
    simp only [List.mem_cons, List.not_mem_nil, or_false, not_or]
    exact ⟨Ne.symm n1, Ne.symm n2, Ne.symm n3⟩) ?_
  intro h5 tk5 es5 en5 na5 v5 vs K5 o5 a50 st5 a51 a52
  refine Exists.elim (D4.turnL [(0, nsO es5 en5), (1, lstX vs.toArray na5), (2, liO .none v5)] K5 (by kernel_rfl) (by kernel_rfl) (oc a50.1 (oc a51.1 (oc a52.1 on)))) ?_
  intro Z5 D5
  rcases o5 with rfl | ⟨h1, t1, v1, h2, t2, v2, rfl⟩
  · skip
    refine eng 3 257 (by exact hA) D5 (by kernel_rfl) ?_
    intro χ6 h6 D6
    refine hook2 (fun u _ => .call (.builtin "str.join") ⟨[.str "" u, .ref (adrAt χ4.T 1)], []⟩) (by kernel_rfl) ?_
    intro u7 _
    have aj := D6.at_ (a := adrAt χ4.T 1) (o := lstX vs.toArray na5) 1 (by kernel_rfl)
    refine strjoin_spec aj.1 st5 hsh.pies' ?_
    intro tk8 v8
    refine eng 8 1130297953353728 (by exact hA) D6 (by kernel_rfl) ?_
    intro χ9 h9 D9
    refine finQ (f := .done .next) (by kernel_rfl) ?_
    have K9 : Kp [] h h9 := Rep.kpF 4 [true, true, true, true, true] D D9 (by kernel_rfl)
    have aF := D9.at_ (a := adrAt χ4.T 3) (o := shF (eHi (objAt χ9.T 3) 0) (eHi (objAt χ9.T 3) 1) (eHi (objAt χ9.T 3) 2) (eHi (objAt χ9.T 3) 3) (eKi (objAt χ9.T 3) 0) (eKi (objAt χ9.T 3) 1) (eKi (objAt χ9.T 3) 2) (eKi (objAt χ9.T 3) 3) (p + 182) r f ft (txt cs) v8 (eNd (objAt χ9.T 3))) 3 (by kernel_rfl)
    exact rest h9 _ _ _ _ _ _ _ _ _ _ _ _ (by kernel_rfl) K9 D9.gd aF
  · skip
    refine eng 11 18518802767275950081 (by exact hA) D5 (by kernel_rfl) ?_
    intro χ6 h6 D6
    refine hook2 (fun u _ => .call (.builtin "str.join") ⟨[.str "" u, .ref (adrAt χ4.T 1)], []⟩) (by kernel_rfl) ?_
    intro u7 _
    have aj := D6.at_ (a := adrAt χ4.T 1) (o := lstX vs.toArray na5) 1 (by kernel_rfl)
    refine strjoin_spec aj.1 st5 hsh.pies' ?_
    intro tk8 v8
    refine eng 8 1130297953353728 (by exact hA) D6 (by kernel_rfl) ?_
    intro χ9 h9 D9
    refine finQ (f := .done .next) (by kernel_rfl) ?_
    have K9 : Kp [] h h9 := Rep.kpF 4 [true, true, true, true, true] D D9 (by kernel_rfl)
    have aF := D9.at_ (a := adrAt χ4.T 3) (o := shF (eHi (objAt χ9.T 3) 0) (eHi (objAt χ9.T 3) 1) (eHi (objAt χ9.T 3) 2) (eHi (objAt χ9.T 3) 3) (eKi (objAt χ9.T 3) 0) (eKi (objAt χ9.T 3) 1) (eKi (objAt χ9.T 3) 2) (eKi (objAt χ9.T 3) 3) (p + 182) r f ft (txt cs) v8 (eNd (objAt χ9.T 3))) 3 (by kernel_rfl)
    exact rest h9 _ _ _ _ _ _ _ _ _ _ _ _ (by kernel_rfl) K9 D9.gd aF
end Mine
namespace Mine
open PySem PySem.W PySem.W.X PyProof.Rows
open PySem.Builtin
set_option maxHeartbeats 0
set_option maxRecDepth 100000
variable {w : World} {A : Around} {R : Result → Shared → Prop} {h : Heap} {g : Array GenState} {dr : Drawn} {tk : Nat} {os : OsState}
abbrev tiO (a b : Value) : Obj := { cls := .type "tuple_iterator", data := .fields #[a, b] }
abbrev cellO (v : Value) : Obj := { cls := .type "cell", data := .cell (some v) }
abbrev tplX (xs : Array Value) : Obj := { cls := .type "tuple", data := .seq xs 0 }
theorem ti_next_some {it src : Addr} {n i : Nat} {xs : Array Value} {v : Value} {ti : Tok} {so : Obj}
    (hA : A.handled = none) (G : Gd w h) (hi : At w h it (tiO (.ref src) (.int i ti))) (hs : h.get? src = some so) (hd : so.data = .seq xs n) (hx : xs[i]? = some v)
    (k : ∀ h' tk', Kp [it] h h' → At w h' it (tiO (.ref src) (.int (i + 1 : Nat) 0)) → R (.ok (.ret v)) ⟨h', g, dr, tk', os⟩) :
    codeAny (model pw w) A (.call (.builtin "tuple_iterator.__next__") ⟨[.ref it], []⟩) R ⟨h, g, dr, tk, os⟩ := by
  have D := Rep.init (T := [(it, tiO (.ref src) (.int i ti))]) G (by simpa using hi) (by simp)
  have hoff := hi.2
  refine codeAny_call_builtin_at (b := Builtin.«tuple_iterator.__next__») (by kernel_rfl) (entryFor_of_tree (by kernel_rfl)) ?_
  refine top_any (R := R) (fun _ => .done .next) ?_
  intro θ
  refine eng 1 1 (by exact hA) D (by kernel_rfl) ?_
  intro χ1 h1' D1
  refine finQ (f := .done .next) (by kernel_rfl) ?_
  intro _ _
  have hp := D1.at (j := 0) (x := (it, tiO (.ref src) (.int i ti))) (by kernel_rfl)
  have K1 : Kp [] h h1' := D.ro D1 (by kernel_rfl) rfl
  clear D1
  have hs := K1.2 _ _ hs (by simp)
  dsimp only at hp
  generalize tk + Cf.i _ = tk'
  show wpAny _ _ (do
    let seq ← field (.ref it) 0
    if seq == .none then rule _; SmallTypes.stopIteration
    let .int i _ ← field (.ref it) 1 | unsupported _
    let some xs ← seqItems? seq | unsupported _
    match xs[i.toNat]? with
    | some x => setField (.ref it) 1 (rawInt (i + 1)); ret x
    | none => rule _; setField (.ref it) 0 .none; SmallTypes.stopIteration) _ _ _
  refine wpAny_bind (wpAny_field hp rfl (x := .ref src) rfl ?_)
  rw [if_neg (by rw [show (Value.ref src == Value.none) = false from rfl]; exact Bool.false_ne_true)]
  refine wpAny_bind (wpAny_field hp rfl (x := .int i ti) rfl ?_)
  refine wpAny_bind (wpAny_seqItems hs hd ?_)
  dsimp only
  rw [Int.toNat_natCast, hx]
  refine wpAny_bind (wpAny_setField hp rfl (by simp) (wpAny_pure ?_))
  have ge := Heap.get?_update_self (Obj.mapFields (·.setIfInBounds 1 (rawInt ((i : Int) + 1)))) hp rfl
  refine k _ _ (K1.upd hp rfl) ⟨ge.trans ?_, hoff⟩
  rfl
theorem ti_next_none {it src : Addr} {n i : Nat} {xs : Array Value} {ti : Tok} {so : Obj}
    (hA : A.handled = none) (G : Gd w h) (hi : At w h it (tiO (.ref src) (.int i ti))) (hs : h.get? src = some so) (hd : so.data = .seq xs n) (hx : xs[i]? = none)
    (k : ∀ h' tk' e t, Kp [it] h h' → At w h' it (tiO .none (.int i ti)) → At w h' e (stopO t) → h.get? e = none → R (.error (.ref e)) ⟨h', g, dr, tk', os⟩) :
    codeAny (model pw w) A (.call (.builtin "tuple_iterator.__next__") ⟨[.ref it], []⟩) R ⟨h, g, dr, tk, os⟩ := by
  have D := Rep.init (T := [(it, tiO (.ref src) (.int i ti))]) G (by simpa using hi) (by simp)
  have hoff := hi.2
  refine codeAny_call_builtin_at (b := Builtin.«tuple_iterator.__next__») (by kernel_rfl) (entryFor_of_tree (by kernel_rfl)) ?_
  refine top_any (R := R) (fun _ => .done .next) ?_
  intro θ
  refine eng 1 1 (by exact hA) D (by kernel_rfl) ?_
  intro χ1 h1' D1
  refine finQ (f := .done .next) (by kernel_rfl) ?_
  intro _ _
  have hp := D1.at (j := 0) (x := (it, tiO (.ref src) (.int i ti))) (by kernel_rfl)
  have K1 : Kp [] h h1' := D.ro D1 (by kernel_rfl) rfl
  have G1 := D1.gd
  clear D1
  have hs := K1.2 _ _ hs (by simp)
  dsimp only at hp
  generalize tk + Cf.i _ = tk'
  show wpAny _ _ (do
    let seq ← field (.ref it) 0
    if seq == .none then rule _; SmallTypes.stopIteration
    let .int i _ ← field (.ref it) 1 | unsupported _
    let some xs ← seqItems? seq | unsupported _
    match xs[i.toNat]? with
    | some x => setField (.ref it) 1 (rawInt (i + 1)); ret x
    | none => rule _; setField (.ref it) 0 .none; SmallTypes.stopIteration) _ _ _
  refine wpAny_bind (wpAny_field hp rfl (x := .ref src) rfl ?_)
  rw [if_neg (by rw [show (Value.ref src == Value.none) = false from rfl]; exact Bool.false_ne_true)]
  refine wpAny_bind (wpAny_field hp rfl (x := .int i ti) rfl ?_)
  refine wpAny_bind (wpAny_seqItems hs hd ?_)
  dsimp only
  rw [Int.toNat_natCast, hx]
  refine wpAny_bind (wpAny_rule ?_)
  refine wpAny_bind (wpAny_setField hp rfl (by simp) ?_)
  have ge := Heap.get?_update_self (Obj.mapFields (·.setIfInBounds 0 .none)) hp rfl
  have K2 := K1.upd (f := Obj.mapFields (·.setIfInBounds 0 .none)) hp rfl
  generalize hH : h1'.update it (Obj.mapFields (·.setIfInBounds 0 .none)) = H at ge K2
  have hst : ∀ a o, slook (KTw w) a = some o → H.get? a = some o := fun a o e => K2.2 a o (G a o e) (by
    intro q
    have q : a = it := by simpa using q
    rw [q, hoff] at e; cases e)
  unfold SmallTypes.stopIteration
  refine wpAny_bind ?_
  simp only [newExc, newTuple]
  refine wpAny_bind (wpAny_newObj_type ?_ (by size_fits))
  refine wpAny_bind (m := firstArgMember _ _) (wpAny_of_eq (a := Value.none) (by first | rfl | (simp only [firstArgMember]; rfl)) ?_)
  refine wpAny_newObj_type ?_ (by size_fits)
  simp only [raiseNew]
  refine wpAny_bind (wpAny_handled ?_)
  rw [show (A.under _).handled = none from hA]
  refine wpAny_throw ?_
  exact k _ _ _ H.objs.size ((K2.push _).push _) ⟨Heap.get?_push_of_some _ (Heap.get?_push_of_some _ ge), hoff⟩
    ⟨Heap.get?_push_size _ rfl, off_fresh (h := H.push _) (fun a o e => Heap.get?_push_of_some _ (hst a o e)) (get_size _)⟩ ((K2.push _).fresh (get_size _))
theorem seqIndex_nat {m n : Nat} (h : m < n) : seqIndex? (m : Int) n = some m := by
  unfold seqIndex?
  have h1 : ¬ ((m : Int) < 0) := by omega
  simp only [h1, if_false]
  simp [h]
theorem fits_nat {m : Nat} (h : m < 1001) : Builtin.List.listFitsIndex (m : Int) = true := fitsIndex_of (by omega) (by omega)
theorem hk_tree {prog : Program} {s : Shared} {T : String} {name : Str} {id : String} {B : Builtin} {self : Value} {rest : List Value} (slot : Slot T name id) (hT : s.TypeIs self T) (entry : entryFor table id = some B) (args : argsOk id ⟨self :: rest, []⟩)
    (h : wpAny (model prog w) A.in1 (B ⟨self :: rest, []⟩) (fun fin s' => match fin with | .done f => R (.ok f) s' | .again c' => c'.quiet = true ∧ codeAny (model prog w) A c' R s') (fun e s' => R (.error e) s') s) : codeAny (model prog w) A (.call (.builtin id) ⟨self :: rest, []⟩) R s :=
  codeAny_call_builtin slot.plain entry (slot.check _ _ _ _ _ _ _ _ hT args h)
theorem getitem_int {prog : Program} {s : Shared} {l : Addr} {items : Array Value} {n : Nat} {k : Int} {t : Tok} {x : Value} (ho : s.heap.get? l = some (lstX items n)) (h0 : 0 ≤ k) (hfit : Builtin.List.listFitsIndex k = true) (hx : items[k.toNat]? = some x)
    (h : R (.ok (.ret x)) s) : codeAny (model prog w) A (.call (.builtin "list.__getitem__") ⟨[.ref l, .int k t], []⟩) R s := by
  refine hk_tree slot_list_getitem ⟨_, ho, rfl⟩ entry_list_getitem (args_list_getitem _ _) ?_
  show wpAny _ _ (Builtin.List.listSubscript? (.int k t) >>= _) _ _ s
  refine wpAny_bind (wpAny_listSubscript_int hfit ?_)
  clear hfit
  obtain ⟨j, rfl⟩ := Int.eq_ofNat_of_zero_le h0
  have hx' : items[j]? = some x := hx
  show wpAny _ _ ((seqItemAt l j >>= fun r => pure (r.map (j, ·))) >>= _) _ _ s
  refine wpAny_bind (wpAny_bind (wpAny_seqItemAt ho rfl (wpAny_pure ?_)))
  rw [hx']
  first
    | exact wpAny_bind (wpAny_pure (wpAny_pure h))
    | exact wpAny_pure h
theorem delitem_int {prog : Program} {s : Shared} {l : Addr} {items : Array Value} {n m : Nat} {k : Int} {t : Tok} (ho : s.heap.get? l = some (lstX items n)) (hfit : Builtin.List.listFitsIndex k = true) (hk : seqIndex? k items.size = some m) (hs : items.size ≤ sizeLine)
    (h : R (.ok (.ret .none)) { s with heap := s.heap.update l (Obj.mapSeq fun xs => xs.eraseIdxIfInBounds m) }) : codeAny (model prog w) A (.call (.builtin "list.__delitem__") ⟨[.ref l, .int k t], []⟩) R s :=
  hk_meets F.slot_list_delitem ⟨_, ho, rfl⟩ F.entry_list_delitem (F.args_list_delitem_2 _ _) (MeetsSeq.list_delitem_at l items n k t m hfit hk hs) ⟨ho, h⟩
theorem getitem_spec {prog : Program} {l : Addr} {vs : List Value} {n : Nat} {m : Nat} {t : Tok} {v : Value} (hl : h.get? l = some (lstX vs.toArray n)) (hm : vs[m]? = some v) (hs : vs.length ≤ 1000)
    (k : R (.ok (.ret v)) ⟨h, g, dr, tk, os⟩) :
    codeAny (model prog w) A (.call (.builtin "list.__getitem__") ⟨[.ref l, .int m t], []⟩) R ⟨h, g, dr, tk, os⟩ := by
  have hlt : m < vs.length := (List.getElem?_eq_some_iff.mp hm).1
  exact getitem_int (s := ⟨h, g, dr, tk, os⟩) hl (Int.natCast_nonneg m) (fits_nat (by omega)) (by simpa using hm) k
theorem delitem_spec {prog : Program} {l : Addr} {vs : List Value} {n : Nat} {m : Nat} {t : Tok} (hl : h.get? l = some (lstX vs.toArray n)) (hm : m < vs.length) (hs : vs.length ≤ 1000)
    (k : ∀ h' n', Kp [l] h h' → h'.get? l = some (lstO (vs.eraseIdx m) n') → R (.ok (.ret .none)) ⟨h', g, dr, tk, os⟩) :
    codeAny (model prog w) A (.call (.builtin "list.__delitem__") ⟨[.ref l, .int m t], []⟩) R ⟨h, g, dr, tk, os⟩ := by
  refine delitem_int (s := ⟨h, g, dr, tk, os⟩) (m := m) hl (fits_nat (by omega)) (by rw [List.size_toArray]; exact seqIndex_nat hm) (by rw [List.size_toArray]; show _ ≤ 2 ^ 24; omega) ?_
  have ge := Heap.get?_update_self (Obj.mapSeq fun xs => xs.eraseIdxIfInBounds m) hl rfl
  refine k _ (if (vs.toArray.eraseIdxIfInBounds m).size == vs.toArray.size then n else n + 1) ((Kp.refl [] h).upd hl rfl) (ge.trans ?_)
  have e : (vs.toArray.eraseIdxIfInBounds m) = (vs.eraseIdx m).toArray := by simp
  simp only [Obj.mapSeq, e]
end Mine
namespace Mine
open PySem PySem.W PySem.W.X PyProof.Rows
open PySem.Builtin
set_option maxHeartbeats 0
variable {w : World} {A : Around} {R : Result → Shared → Prop} {h : Heap} {g : Array GenState} {dr : Drawn} {tk : Nat} {os : OsState}
def Acc (w : World) (h : Heap) (p : Addr) (f : Int) (cs : List (Str × Str)) : Prop :=
  ∃ p0 d n qs hs t1 t2, p = p0 + 182 ∧ At w h p (accO d qs n) ∧ At w h d (dctO hs t1 f t2) ∧ Row w h qs cs
def LsR (w : World) (h : Heap) (l : Addr) (cs : List (Str × Str)) : Prop := ∃ qs n, At w h l (lstO (qs.map .ref) n) ∧ Row w h qs cs
abbrev nearE (p1 p2 p3 p4 p5 p6 p7 : Pos) (iter : PySem.Expr) (p8 : Pos) : PySem.Expr := .ListComp (piE p1 p2 (.Subscript (.Name "places" p3) (.Name "n" p4) p5) p6) [⟨.Name "n" p7, iter, [], 0⟩] ⟨.function, [(nDot, .local), ("n", .local), ("places", .free)], false, false, []⟩ p8
abbrev nearS : Scope := ⟨.function, [(nDot, .local), ("n", .local), ("places", .cell)], false, false, []⟩
theorem comp_idA {na en n : Nat} {L acc it src d : Addr} {qs : List Addr} {ti : Tok}
   {iter : PySem.Expr} {p1 p2 pos : Pos} {gl : Addr} {cl : List (Str × Addr)} {q : Str} {f : Option Addr} {co : Value} {fr : Option Addr} {bi : Addr}
    (hA : A.handled = none) (hsz : qs.length ≤ 500) (G : Gd w h) (aL : At w h L (nsO #[] en)) (aA : At w h acc (lstX #[] na)) (aI : At w h it (liO (.ref src) (.int 0 ti))) (aS : At w h src (accO d qs n))
    (k : ∀ h' tk' es' en' na' v, Kp [L, acc, it] h h' → OneOf nPiece es' → At w h' L (nsO es' en') → At w h' acc (lstO (qs.map Value.ref) na') → At w h' it (liO .none v) → R (.ok .next) ⟨h', g, dr, tk', os⟩) :
    codeAny (model pw w) A (.compStart (piE p1 p2 iter pos) 0 (.ref it) (.ref acc) (cEnv piS L gl cl q f co fr bi)) R ⟨h, g, dr, tk, os⟩ := by
  obtain ⟨Z, D⟩ : ∃ Z, Rep (KTw w) h [L, acc, it] h [(L, nsO #[] en), (acc, lstX #[] na), (it, liO (.ref src) (.int 0 ti))] Z := Rep.initC (T := [(L, nsO #[] en), (acc, lstX #[] na), (it, liO (.ref src) (.int 0 ti))]) G (oc aL (oc aA (oc aI on))) (by kernel_rfl)
  refine comp_id (so := accO d qs n) (ns := n) hA rfl hsz D aS ?_ k
  simp only [List.mem_cons, List.not_mem_nil, or_false, not_or]
  exact ⟨ne_of_cls aS.1 aL.1 (by kernel_rfl), ne_of_cls aS.1 aA.1 (by kernel_rfl), ne_of_cls aS.1 aI.1 (by kernel_rfl)⟩
theorem nin6 {x a b c d e f : Addr} (h1 : x ≠ a) (h2 : x ≠ b) (h3 : x ≠ c) (h4 : x ≠ d) (h5 : x ≠ e) (h6 : x ≠ f) : x ∉ [a, b, c, d, e, f] := by
  simp only [List.mem_cons, List.not_mem_nil, or_false, not_or]
  exact ⟨h1, h2, h3, h4, h5, h6⟩
theorem all3 {P : Nat × Obj → Prop} {a b c : Nat × Obj} (h1 : P a) (h2 : P b) (h3 : P c) : ∀ u ∈ [a, b, c], P u := by
  simp only [List.forall_mem_cons]; exact ⟨h1, h2, h3, by simp⟩
theorem near_turn {L acc it src C P p d : Addr} {na en i m n : Nat} {xs ys : Array Value} {ti tm : Tok} {ps qs : List Addr} {nP : Nat} {es : Array DictEntry}
   {iter : PySem.Expr} {p1 p2 p3 p4 p5 p6 p7 p8 pos : Pos} {gl : Addr} {q : Str} {f : Option Addr} {co : Value} {fr : Option Addr} {bi : Addr}
    (hA : A.handled = none) (G : Gd w h) (aL : At w h L (nsO es en)) (hes : OneOf "n" es) (aA : At w h acc (lstX ys na)) (aI : At w h it (tiO (.ref src) (.int i ti))) (aC : At w h C (cellO (.ref P))) (aP : At w h P (lstO (ps.map .ref) nP)) (ap : At w h p (accO d qs n)) (aS : At w h src (tplX xs))
    (hx : xs[i]? = some (.int m tm)) (hm : ps[m]? = some p) (hps : ps.length ≤ 100) (hqs : qs.length ≤ 100) (hys : ys.size ≤ 100) (haP : acc ≠ P)
    (k : ∀ h' tk' es' en' l nl, Kp [L, acc, it] h h' → Gd w h' → (∃ hs t v, es' = #[⟨hs, .str "n" t, v⟩]) → At w h' L (nsO es' en') → At w h' acc (lstX (ys.push (.ref l)) (na + 1)) → At w h' it (tiO (.ref src) (.int (i + 1 : Nat) 0)) → At w h' l (lstO (qs.map .ref) nl) → h.get? l = none →
      codeAny (model pw w) A (.compLoop (nearE p1 p2 p3 p4 p5 p6 p7 iter p8) 0 (.ref it) (.ref acc) (cEnv nearS L gl [("places", C)] q f co fr bi)) R ⟨h', g, dr, tk', os⟩) :
    codeAny (model pw w) A (.compLoop (nearE p1 p2 p3 p4 p5 p6 p7 iter p8) 0 (.ref it) (.ref acc) (cEnv nearS L gl [("places", C)] q f co fr bi)) R ⟨h, g, dr, tk, os⟩ := by
  obtain ⟨Z, D⟩ : ∃ Z, Rep (KTw w) h [L, acc, it, C, P, p] h [(L, nsO es en), (acc, lstX ys na), (it, tiO (.ref src) (.int i ti)), (C, cellO (.ref P)), (P, lstO (ps.map .ref) nP), (p, accO d qs n)] Z := ⟨_, Rep.init (T := [(L, nsO es en), (acc, lstX ys na), (it, tiO (.ref src) (.int i ti)), (C, cellO (.ref P)), (P, lstO (ps.map .ref) nP), (p, accO d qs n)]) G (oc aL (oc aA (oc aI (oc aC (oc aP (oc ap on)))))) (by
    have n1 := nodup_cls (w := w) (h := h) (T := [(L, nsO es en), (acc, lstX ys na), (it, tiO (.ref src) (.int i ti)), (C, cellO (.ref P)), (p, accO d qs n)]) (oc aL (oc aA (oc aI (oc aC (oc ap on))))) (by simp)
    have n2 := nodup_cls (w := w) (h := h) (T := [(L, nsO es en), (it, tiO (.ref src) (.int i ti)), (C, cellO (.ref P)), (P, lstO (ps.map .ref) nP), (p, accO d qs n)]) (oc aL (oc aI (oc aC (oc aP (oc ap on))))) (by simp)
    simp only [List.map_cons, List.map_nil, List.nodup_cons, List.mem_cons, List.not_mem_nil, or_false, not_or] at n1 n2 ⊢
    simp_all)⟩
  rcases hes with rfl | ⟨hs0, t0, v0, rfl⟩
  · refine start (Q := fun _ _ => True) (E := fun _ _ => True) ?_
    refine eng 2 768 (by exact hA) D (by kernel_rfl) ?_
    intro χ1 h1 D1
    refine hook (c' := .call (.builtin "tuple_iterator.__next__") ⟨[.ref it], []⟩) (by kernel_rfl) ?_
    have K1 : Kp [] h h1 := Rep.kpF 0 [true, true, true, true, true, true] D D1 (by kernel_rfl)
    refine ti_next_some (i := i) (src := src) (ti := ti) (v := .int m tm) (xs := xs) (n := 0) (so := tplX xs) (ac_handled hA) D1.gd (D1.at_ 2 (by kernel_rfl)) (K1.2 _ _ aS.1 (by simp)) rfl hx ?_
    intro h2 tk2 K2 a2
    refine Exists.elim ((D1.turn (j := 2) (x := (it, tiO (.ref src) (.int i ti))) (by kernel_rfl) K2 a2.1).ex) ?_
    intro Z2 D2
    refine eng 15 26063292482713967423052213441789952 (by exact hA) D2 (by kernel_rfl) ?_
    intro χ3 h3 D3
    refine hook (c' := .call (.builtin "list.__getitem__") ⟨[.ref P, .int m tm], []⟩) (by kernel_rfl) ?_
    have aP3 := D3.at_ (a := P) (o := lstO (ps.map .ref) nP) 4 (by kernel_rfl)
    refine getitem_spec (v := .ref p) aP3.1 (by simp [hm]) (by simp; omega) ?_
    refine eng 9 6597069768192 (by exact hA) D3 (by kernel_rfl) ?_
    intro χ4 h4 D4
    refine eng2 "special-get-raises" 1 0 1 0 (by exact hA) D4 (by kernel_rfl) ?_
    intro χ5 h5 D5
    refine eng 9 281474976712192 (by exact hA) D5 (by kernel_rfl) ?_
    intro χ6 h6 D6
    refine hook (c' := .compStart (piE p1 p2 (.Subscript (.Name "places" p3) (.Name "n" p4) p5) p6) 0 (.ref (adrAt χ6.T 2)) (.ref (adrAt χ6.T 1)) (cEnv piS (adrAt χ6.T 0) gl [] q none co fr bi)) (by kernel_rfl) ?_
    have a40 := D6.at_ (a := adrAt χ6.T 0) (o := nsO #[] 0) 0 (by kernel_rfl)
    have a41 := D6.at_ (a := adrAt χ6.T 1) (o := lstX #[] 0) 1 (by kernel_rfl)
    have f41 := D6.fresh_ (a := adrAt χ6.T 1) (o := lstX #[] 0) 1 (by kernel_rfl)
    have a42 := D6.at_ (a := adrAt χ6.T 2) (o := liO (.ref p) (.int 0 0)) 2 (by kernel_rfl)
    have a44 := D6.at_ (a := p) (o := accO d qs n) 8 (by kernel_rfl)
    have fl : h.get? (adrAt χ6.T 1) = none := by
      have q1 := D6.at_ (a := L) (o := objAt χ6.T 3) 3 (by kernel_rfl)
      have n0 := D6.apart (a := adrAt χ6.T 1) (o := lstX #[] 0) (b := L) (o' := objAt χ6.T 3) 1 3 (by kernel_rfl)
      have n1 := D6.apart (a := adrAt χ6.T 1) (o := lstX #[] 0) (b := acc) (o' := lstX ys na) 1 4 (by kernel_rfl)
      have n2 := D6.apart (a := adrAt χ6.T 1) (o := lstX #[] 0) (b := it) (o' := tiO (.ref src) (.int (i + 1 : Nat) 0)) 1 5 (by kernel_rfl)
      have n3 := D6.apart (a := adrAt χ6.T 1) (o := lstX #[] 0) (b := C) (o' := cellO (.ref P)) 1 6 (by kernel_rfl)
      have n4 := D6.apart (a := adrAt χ6.T 1) (o := lstX #[] 0) (b := P) (o' := lstO (ps.map .ref) nP) 1 7 (by kernel_rfl)
      have n5 := D6.apart (a := adrAt χ6.T 1) (o := lstX #[] 0) (b := p) (o' := accO d qs n) 1 8 (by kernel_rfl)
      exact f41 (nin6 n0 n1 n2 n3 n4 n5)
    refine comp_idA (d := d) (n := n) (na := 0) (en := 0) (qs := qs) (ti := 0) (ac_handled hA) (by omega) D6.gd a40 a41 a42 a44 ?_
    intro h7 tk7 es7 en7 na7 v7 K7 o7 a70 a71 a72
    refine Exists.elim (D6.turnL [(0, nsO es7 en7), (1, lstO (qs.map .ref) na7), (2, liO .none v7)] K7 (by kernel_rfl) (by kernel_rfl) (all3 a70.1 a71.1 a72.1)) ?_
    intro Z7 D7
    rcases o7 with rfl | ⟨h1', t1, v1, rfl⟩
    · skip
      refine eng 1 1 (by exact hA) D7 (by kernel_rfl) ?_
      intro χ8 h8 D8
      refine hook (c' := .call (.builtin "list.append") ⟨[.ref acc, .ref (adrAt χ6.T 1)], []⟩) (by kernel_rfl) ?_
      refine append_lst (n := na) (xs := ys) (v := .ref (adrAt χ6.T 1)) (ac_handled hA) (D8.one 4 (by kernel_rfl)) (by omega) ?_
      intro h9 tk9 K9 a9
      refine Exists.elim ((D8.turn (j := 4) (x := (acc, lstX ys na)) (by kernel_rfl) K9 a9.1).ex) ?_
      intro Z9 D9
      refine againC (c' := .compLoop (nearE p1 p2 p3 p4 p5 p6 p7 iter p8) 0 (.ref it) (.ref acc) (cEnv nearS L gl [("places", C)] q f co fr bi)) (c := .compLoop (nearE p1 p2 p3 p4 p5 p6 p7 iter p8) 0 (.ref it) (.ref acc) (cEnv nearS L gl [("places", C)] q f co fr bi)) (by kernel_rfl) ?_
      have bL := D9.at_ (a := L) (o := nsO #[⟨eHi (objAt (TT D9) 3) 0, .str "n" (eKi (objAt (TT D9) 3) 0), .int m tm⟩] (en + 1)) 3 (by kernel_rfl)
      have bA := D9.at_ (a := acc) (o := lstX (ys.push (.ref (adrAt χ6.T 1))) (na + 1)) 4 (by kernel_rfl)
      have bI := D9.at_ (a := it) (o := tiO (.ref src) (.int (i + 1 : Nat) 0)) 5 (by kernel_rfl)
      have bl := D9.at_ (a := adrAt χ6.T 1) (o := lstO (qs.map .ref) na7) 1 (by kernel_rfl)
      exact k h9 _ _ _ _ na7 (Rep.kpF 3 [false, false, false, true, true, true] D D9 (by kernel_rfl)) D9.gd ⟨_, _, _, rfl⟩ bL bA bI bl fl
    · skip
      refine eng 5 16842753 (by exact hA) D7 (by kernel_rfl) ?_
      intro χ8 h8 D8
      refine hook (c' := .call (.builtin "list.append") ⟨[.ref acc, .ref (adrAt χ6.T 1)], []⟩) (by kernel_rfl) ?_
      refine append_lst (n := na) (xs := ys) (v := .ref (adrAt χ6.T 1)) (ac_handled hA) (D8.one 4 (by kernel_rfl)) (by omega) ?_
      intro h9 tk9 K9 a9
      refine Exists.elim ((D8.turn (j := 4) (x := (acc, lstX ys na)) (by kernel_rfl) K9 a9.1).ex) ?_
      intro Z9 D9
      refine againC (c' := .compLoop (nearE p1 p2 p3 p4 p5 p6 p7 iter p8) 0 (.ref it) (.ref acc) (cEnv nearS L gl [("places", C)] q f co fr bi)) (c := .compLoop (nearE p1 p2 p3 p4 p5 p6 p7 iter p8) 0 (.ref it) (.ref acc) (cEnv nearS L gl [("places", C)] q f co fr bi)) (by kernel_rfl) ?_
      have bL := D9.at_ (a := L) (o := nsO #[⟨eHi (objAt (TT D9) 3) 0, .str "n" (eKi (objAt (TT D9) 3) 0), .int m tm⟩] (en + 1)) 3 (by kernel_rfl)
      have bA := D9.at_ (a := acc) (o := lstX (ys.push (.ref (adrAt χ6.T 1))) (na + 1)) 4 (by kernel_rfl)
      have bI := D9.at_ (a := it) (o := tiO (.ref src) (.int (i + 1 : Nat) 0)) 5 (by kernel_rfl)
      have bl := D9.at_ (a := adrAt χ6.T 1) (o := lstO (qs.map .ref) na7) 1 (by kernel_rfl)
      exact k h9 _ _ _ _ na7 (Rep.kpF 3 [false, false, false, true, true, true] D D9 (by kernel_rfl)) D9.gd ⟨_, _, _, rfl⟩ bL bA bI bl fl
  · refine start (Q := fun _ _ => True) (E := fun _ _ => True) ?_
    refine eng 2 768 (by exact hA) D (by kernel_rfl) ?_
    intro χ1 h1 D1
    refine hook (c' := .call (.builtin "tuple_iterator.__next__") ⟨[.ref it], []⟩) (by kernel_rfl) ?_
    have K1 : Kp [] h h1 := Rep.kpF 0 [true, true, true, true, true, true] D D1 (by kernel_rfl)
    refine ti_next_some (i := i) (src := src) (ti := ti) (v := .int m tm) (xs := xs) (n := 0) (so := tplX xs) (ac_handled hA) D1.gd (D1.at_ 2 (by kernel_rfl)) (K1.2 _ _ aS.1 (by simp)) rfl hx ?_
    intro h2 tk2 K2 a2
    refine Exists.elim ((D1.turn (j := 2) (x := (it, tiO (.ref src) (.int i ti))) (by kernel_rfl) K2 a2.1).ex) ?_
    intro Z2 D2
    refine eng 15 26063292482713967423052213441789952 (by exact hA) D2 (by kernel_rfl) ?_
    intro χ3 h3 D3
    refine hook (c' := .call (.builtin "list.__getitem__") ⟨[.ref P, .int m tm], []⟩) (by kernel_rfl) ?_
    have aP3 := D3.at_ (a := P) (o := lstO (ps.map .ref) nP) 4 (by kernel_rfl)
    refine getitem_spec (v := .ref p) aP3.1 (by simp [hm]) (by simp; omega) ?_
    refine eng 9 6597069768192 (by exact hA) D3 (by kernel_rfl) ?_
    intro χ4 h4 D4
    refine eng2 "special-get-raises" 1 0 1 0 (by exact hA) D4 (by kernel_rfl) ?_
    intro χ5 h5 D5
    refine eng 9 281474976712192 (by exact hA) D5 (by kernel_rfl) ?_
    intro χ6 h6 D6
    refine hook (c' := .compStart (piE p1 p2 (.Subscript (.Name "places" p3) (.Name "n" p4) p5) p6) 0 (.ref (adrAt χ6.T 2)) (.ref (adrAt χ6.T 1)) (cEnv piS (adrAt χ6.T 0) gl [] q none co fr bi)) (by kernel_rfl) ?_
    have a40 := D6.at_ (a := adrAt χ6.T 0) (o := nsO #[] 0) 0 (by kernel_rfl)
    have a41 := D6.at_ (a := adrAt χ6.T 1) (o := lstX #[] 0) 1 (by kernel_rfl)
    have f41 := D6.fresh_ (a := adrAt χ6.T 1) (o := lstX #[] 0) 1 (by kernel_rfl)
    have a42 := D6.at_ (a := adrAt χ6.T 2) (o := liO (.ref p) (.int 0 0)) 2 (by kernel_rfl)
    have a44 := D6.at_ (a := p) (o := accO d qs n) 8 (by kernel_rfl)
    have fl : h.get? (adrAt χ6.T 1) = none := by
      have q1 := D6.at_ (a := L) (o := objAt χ6.T 3) 3 (by kernel_rfl)
      have n0 := D6.apart (a := adrAt χ6.T 1) (o := lstX #[] 0) (b := L) (o' := objAt χ6.T 3) 1 3 (by kernel_rfl)
      have n1 := D6.apart (a := adrAt χ6.T 1) (o := lstX #[] 0) (b := acc) (o' := lstX ys na) 1 4 (by kernel_rfl)
      have n2 := D6.apart (a := adrAt χ6.T 1) (o := lstX #[] 0) (b := it) (o' := tiO (.ref src) (.int (i + 1 : Nat) 0)) 1 5 (by kernel_rfl)
      have n3 := D6.apart (a := adrAt χ6.T 1) (o := lstX #[] 0) (b := C) (o' := cellO (.ref P)) 1 6 (by kernel_rfl)
      have n4 := D6.apart (a := adrAt χ6.T 1) (o := lstX #[] 0) (b := P) (o' := lstO (ps.map .ref) nP) 1 7 (by kernel_rfl)
      have n5 := D6.apart (a := adrAt χ6.T 1) (o := lstX #[] 0) (b := p) (o' := accO d qs n) 1 8 (by kernel_rfl)
      exact f41 (nin6 n0 n1 n2 n3 n4 n5)
    refine comp_idA (d := d) (n := n) (na := 0) (en := 0) (qs := qs) (ti := 0) (ac_handled hA) (by omega) D6.gd a40 a41 a42 a44 ?_
    intro h7 tk7 es7 en7 na7 v7 K7 o7 a70 a71 a72
    refine Exists.elim (D6.turnL [(0, nsO es7 en7), (1, lstO (qs.map .ref) na7), (2, liO .none v7)] K7 (by kernel_rfl) (by kernel_rfl) (all3 a70.1 a71.1 a72.1)) ?_
    intro Z7 D7
    rcases o7 with rfl | ⟨h1', t1, v1, rfl⟩
    · skip
      refine eng 1 1 (by exact hA) D7 (by kernel_rfl) ?_
      intro χ8 h8 D8
      refine hook (c' := .call (.builtin "list.append") ⟨[.ref acc, .ref (adrAt χ6.T 1)], []⟩) (by kernel_rfl) ?_
      refine append_lst (n := na) (xs := ys) (v := .ref (adrAt χ6.T 1)) (ac_handled hA) (D8.one 4 (by kernel_rfl)) (by omega) ?_
      intro h9 tk9 K9 a9
      refine Exists.elim ((D8.turn (j := 4) (x := (acc, lstX ys na)) (by kernel_rfl) K9 a9.1).ex) ?_
      intro Z9 D9
      refine againC (c' := .compLoop (nearE p1 p2 p3 p4 p5 p6 p7 iter p8) 0 (.ref it) (.ref acc) (cEnv nearS L gl [("places", C)] q f co fr bi)) (c := .compLoop (nearE p1 p2 p3 p4 p5 p6 p7 iter p8) 0 (.ref it) (.ref acc) (cEnv nearS L gl [("places", C)] q f co fr bi)) (by kernel_rfl) ?_
      have bL := D9.at_ (a := L) (o := nsO #[⟨eHi (objAt (TT D9) 3) 0, .str "n" (eKi (objAt (TT D9) 3) 0), .int m tm⟩] (en)) 3 (by kernel_rfl)
      have bA := D9.at_ (a := acc) (o := lstX (ys.push (.ref (adrAt χ6.T 1))) (na + 1)) 4 (by kernel_rfl)
      have bI := D9.at_ (a := it) (o := tiO (.ref src) (.int (i + 1 : Nat) 0)) 5 (by kernel_rfl)
      have bl := D9.at_ (a := adrAt χ6.T 1) (o := lstO (qs.map .ref) na7) 1 (by kernel_rfl)
      exact k h9 _ _ _ _ na7 (Rep.kpF 3 [false, false, false, true, true, true] D D9 (by kernel_rfl)) D9.gd ⟨_, _, _, rfl⟩ bL bA bI bl fl
    · skip
      refine eng 5 16842753 (by exact hA) D7 (by kernel_rfl) ?_
      intro χ8 h8 D8
      refine hook (c' := .call (.builtin "list.append") ⟨[.ref acc, .ref (adrAt χ6.T 1)], []⟩) (by kernel_rfl) ?_
      refine append_lst (n := na) (xs := ys) (v := .ref (adrAt χ6.T 1)) (ac_handled hA) (D8.one 4 (by kernel_rfl)) (by omega) ?_
      intro h9 tk9 K9 a9
      refine Exists.elim ((D8.turn (j := 4) (x := (acc, lstX ys na)) (by kernel_rfl) K9 a9.1).ex) ?_
      intro Z9 D9
      refine againC (c' := .compLoop (nearE p1 p2 p3 p4 p5 p6 p7 iter p8) 0 (.ref it) (.ref acc) (cEnv nearS L gl [("places", C)] q f co fr bi)) (c := .compLoop (nearE p1 p2 p3 p4 p5 p6 p7 iter p8) 0 (.ref it) (.ref acc) (cEnv nearS L gl [("places", C)] q f co fr bi)) (by kernel_rfl) ?_
      have bL := D9.at_ (a := L) (o := nsO #[⟨eHi (objAt (TT D9) 3) 0, .str "n" (eKi (objAt (TT D9) 3) 0), .int m tm⟩] (en)) 3 (by kernel_rfl)
      have bA := D9.at_ (a := acc) (o := lstX (ys.push (.ref (adrAt χ6.T 1))) (na + 1)) 4 (by kernel_rfl)
      have bI := D9.at_ (a := it) (o := tiO (.ref src) (.int (i + 1 : Nat) 0)) 5 (by kernel_rfl)
      have bl := D9.at_ (a := adrAt χ6.T 1) (o := lstO (qs.map .ref) na7) 1 (by kernel_rfl)
      exact k h9 _ _ _ _ na7 (Rep.kpF 3 [false, false, false, true, true, true] D D9 (by kernel_rfl)) D9.gd ⟨_, _, _, rfl⟩ bL bA bI bl fl
theorem comp_startT {acc : Value} {it : Addr} {a b : Value} {env : Env}
   {elt target iter : PySem.Expr} {ifs : List PySem.Expr} {scope : Scope} {pos : Pos}
    (hA : A.handled = none) (G : Gd w h) (aI : At w h it (tiO a b))
    (k : ∀ h' tk', Kp [] h h' → Gd w h' → codeAny (model pw w) A (.compLoop (.ListComp elt [⟨target, iter, ifs, 0⟩] scope pos) 0 (.ref it) acc env) R ⟨h', g, dr, tk', os⟩) :
    codeAny (model pw w) A (.compStart (.ListComp elt [⟨target, iter, ifs, 0⟩] scope pos) 0 (.ref it) acc env) R ⟨h, g, dr, tk, os⟩ := by
  obtain ⟨Z, D⟩ : ∃ Z, Rep (KTw w) h [it] h [(it, tiO a b)] Z := Rep.initC (T := [(it, tiO a b)]) G (oc aI on) (by kernel_rfl)
  refine start (Q := fun _ _ => True) (E := fun _ _ => True) ?_
  cases hb : w.params.followText "comprehension-iter-twice" with
  | true =>
    refine engS _ (stR_eq hb) 1 0 hA D (by kernel_rfl) ?_
    intro χ1 h1 D1
    refine againC (c := .compStart (.ListComp elt [⟨target, iter, ifs, 0⟩] scope pos) 0 (.ref it) acc env) (c' := .compLoop (.ListComp elt [⟨target, iter, ifs, 0⟩] scope pos) 0 (.ref it) acc env) (by kernel_rfl) ?_
    exact k h1 _ (Rep.kpF 0 [true] D D1 (by kernel_rfl)) D1.gd
  | false =>
    refine engS _ (stR_eq hb) 1 0 hA D (by kernel_rfl) ?_
    intro χ1 h1 D1
    refine eng 4 16842752 (by exact hA) D1 (by kernel_rfl) ?_
    intro χ2 h2 D2
    refine eng2 "special-get-raises" 1 0 1 0 (by exact hA) D2 (by kernel_rfl) ?_
    intro χ3 h3 D3
    refine eng 5 4294967552 (by exact hA) D3 (by kernel_rfl) ?_
    intro χ4 h4 D4
    refine againC (c := .compStart (.ListComp elt [⟨target, iter, ifs, 0⟩] scope pos) 0 (.ref it) acc env) (c' := .compLoop (.ListComp elt [⟨target, iter, ifs, 0⟩] scope pos) 0 (.ref it) acc env) (by kernel_rfl) ?_
    exact k h4 _ (Rep.kpF 0 [true] D D4 (by kernel_rfl)) D4.gd
theorem comp_endT {acc : Value} {it src : Addr} {i : Nat} {ti : Tok} {xs : Array Value} {env : Env}
   {elt target iter : PySem.Expr} {scope : Scope} {pos : Pos}
    (hA : A.handled = none) (G : Gd w h) (aI : At w h it (tiO (.ref src) (.int i ti))) (aS : At w h src (tplX xs)) (hx : xs[i]? = none)
    (k : ∀ h' tk', Kp [it] h h' → Gd w h' → R (.ok .next) ⟨h', g, dr, tk', os⟩) :
    codeAny (model pw w) A (.compLoop (.ListComp elt [⟨target, iter, [], 0⟩] scope pos) 0 (.ref it) acc env) R ⟨h, g, dr, tk, os⟩ := by
  obtain ⟨Z, D⟩ : ∃ Z, Rep (KTw w) h [it] h [(it, tiO (.ref src) (.int i ti))] Z := Rep.initC (T := [(it, tiO (.ref src) (.int i ti))]) G (oc aI on) (by kernel_rfl)
  have hne := ne_of_cls aS.1 aI.1 (by kernel_rfl)
  refine start (Q := fun _ _ => True) (E := fun _ _ => True) ?_
  refine eng 2 256 (by exact hA) D (by kernel_rfl) ?_
  intro χ1 h1 D1
  refine hook (c' := .call (.builtin "tuple_iterator.__next__") ⟨[.ref it], []⟩) (by kernel_rfl) ?_
  refine ti_next_none (i := i) (src := src) (ti := ti) (xs := xs) (n := 0) (so := tplX xs) (ac_handled hA) D1.gd (D1.at_ 0 (by kernel_rfl)) (D1.keep.2 _ _ aS.1 (by simpa using hne)) rfl hx ?_
  intro h2 tk2 e t K2 a2 ae he
  refine Exists.elim ((D1.turnPlus (j := 0) (x := (it, tiO (.ref src) (.int i ti))) (by kernel_rfl) K2 a2.1 ae he).ex) ?_
  intro Z2 D2
  refine eng 1 1 (by exact hA) D2 (by kernel_rfl) ?_
  intro χ3 h3 D3
  refine fin (f := .next) (by kernel_rfl) ?_
  exact k h3 _ D3.keep D3.gd
theorem old_ne {x l : Addr} {o : Obj} (e : h.get? x = some o) (f : h.get? l = none) : l ≠ x := fun z => by rw [z, e] at f; cases f
theorem near_spec {L acc it src C P p0 p1 p2 d0 d1 d2 : Addr} {na en m0 m1 m2 n0 n1 n2 : Nat} {ti u0 u1 u2 : Tok} {ps qs0 qs1 qs2 : List Addr} {nP : Nat}
   {iter : PySem.Expr} {q1 q2 q3 q4 q5 q6 q7 q8 : Pos} {gl : Addr} {q : Str} {f : Option Addr} {co : Value} {fr : Option Addr} {bi : Addr}
    (hA : A.handled = none) (G : Gd w h) (aL : At w h L (nsO #[] en)) (aA : At w h acc (lstX #[] na)) (aI : At w h it (tiO (.ref src) (.int 0 ti))) (aC : At w h C (cellO (.ref P))) (aP : At w h P (lstO (ps.map .ref) nP))
    (a0 : At w h p0 (accO d0 qs0 n0)) (a1 : At w h p1 (accO d1 qs1 n1)) (a2 : At w h p2 (accO d2 qs2 n2)) (aS : At w h src (tplX #[.int m0 u0, .int m1 u1, .int m2 u2]))
    (e0 : ps[m0]? = some p0) (e1 : ps[m1]? = some p1) (e2 : ps[m2]? = some p2) (hps : ps.length ≤ 100) (hq0 : qs0.length ≤ 100) (hq1 : qs1.length ≤ 100) (hq2 : qs2.length ≤ 100) (haP : acc ≠ P)
    (k : ∀ h' tk' es' en' na' l0 l1 l2 k0 k1 k2, Kp [L, acc, it] h h' → Gd w h' → (∃ hs t v, es' = #[⟨hs, .str "n" t, v⟩]) → At w h' L (nsO es' en') → At w h' acc (lstX #[.ref l0, .ref l1, .ref l2] na') → At w h' l0 (lstO (qs0.map .ref) k0) → At w h' l1 (lstO (qs1.map .ref) k1) → At w h' l2 (lstO (qs2.map .ref) k2) →
      h.get? l0 = none → h.get? l1 = none → h.get? l2 = none → l0 ≠ l1 → l0 ≠ l2 → l1 ≠ l2 → R (.ok .next) ⟨h', g, dr, tk', os⟩) :
    codeAny (model pw w) A (.compStart (nearE q1 q2 q3 q4 q5 q6 q7 iter q8) 0 (.ref it) (.ref acc) (cEnv nearS L gl [("places", C)] q f co fr bi)) R ⟨h, g, dr, tk, os⟩ := by
  have nCL := ne_of_cls aC.1 aL.1 (by kernel_rfl)
  have nCA := ne_of_cls aC.1 aA.1 (by kernel_rfl)
  have nCI := ne_of_cls aC.1 aI.1 (by kernel_rfl)
  have nPL := ne_of_cls aP.1 aL.1 (by kernel_rfl)
  have nPI := ne_of_cls aP.1 aI.1 (by kernel_rfl)
  have nSL := ne_of_cls aS.1 aL.1 (by kernel_rfl)
  have nSA := ne_of_cls aS.1 aA.1 (by kernel_rfl)
  have nSI := ne_of_cls aS.1 aI.1 (by kernel_rfl)
  have nC : C ∉ [L, acc, it] := by simp [nCL, nCA, nCI]
  have nP' : P ∉ [L, acc, it] := by simp [nPL, Ne.symm haP, nPI]
  have nS : src ∉ [L, acc, it] := by simp [nSL, nSA, nSI]
  have nacc : ∀ {p d : Addr} {qs : List Addr} {n : Nat}, At w h p (accO d qs n) → p ∉ [L, acc, it] := fun x => by
    have h1 := ne_of_cls x.1 aL.1 (by kernel_rfl)
    have h2 := ne_of_cls x.1 aA.1 (by kernel_rfl)
    have h3 := ne_of_cls x.1 aI.1 (by kernel_rfl)
    simp [h1, h2, h3]
  refine comp_startT hA G aI fun h1 tk1 K1 G1 => ?_
  refine near_turn (pos := default) (i := 0) (m := m0) (xs := #[.int m0 u0, .int m1 u1, .int m2 u2]) hA G1 (aL.kp K1 (by simp)) (.inl rfl) (aA.kp K1 (by simp)) (aI.kp K1 (by simp)) (aC.kp K1 (by simp)) (aP.kp K1 (by simp)) (a0.kp K1 (by simp)) (aS.kp K1 (by simp)) rfl e0 hps hq0 (by simp) haP ?_
  intro h2 tk2 es2 en2 l0 k0 K2 G2 o2 bL2 bA2 bI2 b0 f0
  have K12 : Kp [L, acc, it] h h2 := (K1.weak (by simp)).trans K2 fun _ _ _ q => q
  refine near_turn (pos := default) (i := 1) (m := m1) (xs := #[.int m0 u0, .int m1 u1, .int m2 u2]) hA G2 bL2 (.inr o2) bA2 bI2 (aC.kp K12 nC) (aP.kp K12 nP') (a1.kp K12 (nacc a1)) (aS.kp K12 nS) rfl e1 hps hq1 (by simp) haP ?_
  intro h3 tk3 es3 en3 l1 k1 K3 G3 o3 bL3 bA3 bI3 b1 f1
  have K13 : Kp [L, acc, it] h h3 := K12.trans K3 fun _ _ _ q => q
  refine near_turn (pos := default) (i := 2) (m := m2) (xs := #[.int m0 u0, .int m1 u1, .int m2 u2]) hA G3 bL3 (.inr o3) bA3 bI3 (aC.kp K13 nC) (aP.kp K13 nP') (a2.kp K13 (nacc a2)) (aS.kp K13 nS) rfl e2 hps hq2 (by simp) haP ?_
  intro h4 tk4 es4 en4 l2 k2 K4 G4 o4 bL4 bA4 bI4 b2 f2
  have K14 : Kp [L, acc, it] h h4 := K13.trans K4 fun _ _ _ q => q
  refine comp_endT (i := 3) (xs := #[.int m0 u0, .int m1 u1, .int m2 u2]) hA G4 bI4 (aS.kp K14 nS) rfl ?_
  intro h5 tk5 K5 G5
  have K15 : Kp [L, acc, it] h h5 := K14.trans K5 fun x _ _ q => by
    have : x = it := by simpa using q
    simp [this]
  have old : ∀ {x l : Addr} {o : Obj}, h.get? x = some o → h.get? l = none → l ≠ x := fun e f z => by rw [z, e] at f; cases f
  have nl : ∀ {l : Addr}, h.get? l = none → l ∉ [L, acc, it] := fun {l} f => by
    have h1 := old aL.1 f
    have h2 := old aA.1 f
    have h3 := old aI.1 f
    simp [h1, h2, h3]
  have g1 : h.get? l1 = none := K12.fresh f1
  have g2 : h.get? l2 = none := K13.fresh f2
  have g0 : h.get? l0 = none := K1.fresh f0
  have nli : ∀ {l : Addr}, h.get? l = none → l ∉ [it] := fun {l} f => by
    have h3 := old aI.1 f
    simp [h3]
  refine k h5 tk5 es4 en4 (na + 1 + 1 + 1) l0 l1 l2 k0 k1 k2 K15 G5 o4 (bL4.kp K5 (by
    have := ne_of_cls aL.1 aI.1 (by kernel_rfl)
    simpa using this)) ?_ (((b0.kp K3 (nl g0)).kp K4 (nl g0)).kp K5 (nli g0)) ((b1.kp K4 (nl g1)).kp K5 (nli g1)) (b2.kp K5 (nli g2)) g0 g1 g2 (Ne.symm (old_ne b0.1 f1)) (Ne.symm (old_ne (b0.kp K3 (nl g0)).1 f2)) (Ne.symm (old_ne b1.1 f2))
  exact bA4.kp K5 (by
    have := ne_of_cls aA.1 aI.1 (by kernel_rfl)
    simpa using this)
def entL (H : Nat → Int) (K : Nat → Tok) : Nat → List (Str × Value) → List DictEntry
  | _, [] => []
  | i, (n, v) :: r => ⟨H i, .str n (K i), v⟩ :: entL H K (i + 1) r
abbrev frL (H : Nat → Int) (K : Nat → Tok) (es : List (Str × Value)) (en : Nat) : Obj := fmO (entL H K 0 es).toArray en
noncomputable abbrev B171 (w : World) : List Stmt := bodyAt (fdOf (slook (KTw w) 171))
noncomputable abbrev E171 (w : World) (F : Addr) : Env := envAt 171 (fdOf (slook (KTw w) 171)) F
abbrev turn1 (k nu ld : Nat) (u1 u2 u3 : Tok) (Tb NL : Addr) : List (Str × Value) := [("k", .int k u1), ("number", .int nu u2), ("leader", .int ld u3), ("table", .ref Tb), ("near", .ref NL)]
def sqT (o : Obj) (i : Nat) : Tok := match o.data with
  | .seq xs _ => tokV xs[i]?
  | _ => 0
theorem nin1 {x a : Addr} (h1 : x ≠ a) : x ∉ [a] := by simpa using h1
theorem nin3 {x a b c : Addr} (h1 : x ≠ a) (h2 : x ≠ b) (h3 : x ≠ c) : x ∉ [a, b, c] := by
  simp only [List.mem_cons, List.not_mem_nil, or_false, not_or]
  exact ⟨h1, h2, h3⟩
theorem Rep.more3 {h₀ h h0 : Heap} {ks : List Addr} {T T0 : DT} {Z Z0 : Nat} {a1 a2 a3 : Addr} {o1 o2 o3 : Obj} (D : Rep (KTw w) h₀ ks h T Z) (D0 : Rep (KTw w) h₀ ks h0 T0 Z0) (e : T.map (·.1) = T0.map (·.1)) (x1 : At w h a1 o1) (f1 : h0.get? a1 = none) (x2 : At w h a2 o2) (f2 : h0.get? a2 = none) (x3 : At w h a3 o3) (f3 : h0.get? a3 = none)
    (n12 : a1 ≠ a2) (n13 : a1 ≠ a3) (n23 : a2 ≠ a3) : Rep (KTw w) h₀ ks h ((a1, o1) :: (a2, o2) :: (a3, o3) :: T) Z := by
  have key : ∀ a, h0.get? a = none → ∀ p ∈ T, p.1 ≠ a := fun a f p hp z => by
    have : p.1 ∈ T0.map (·.1) := by rw [← e]; exact List.mem_map_of_mem hp
    obtain ⟨q, hq, e'⟩ := List.mem_map.mp this
    have := D0.own q hq
    rw [e', z, f] at this
    cases this
  have r3 := D.more x3.1 (key a3 f3) x3.2 (.inr (D0.keep.fresh f3))
  have r2 := r3.more x2.1 (fun p hp => by
    rcases List.mem_cons.mp hp with rfl | hp
    · exact Ne.symm n23
    · exact key a2 f2 p hp) x2.2 (.inr (D0.keep.fresh f2))
  exact r2.more x1.1 (fun p hp => by
    rcases List.mem_cons.mp hp with rfl | hp
    · exact Ne.symm n12
    rcases List.mem_cons.mp hp with rfl | hp
    · exact Ne.symm n13
    · exact key a1 f1 p hp) x1.2 (.inr (D0.keep.fresh f1))
theorem nin0 {α : Type} (x : α) : x ∉ ([] : List α) := by simp
theorem nd4 {a b c d : Addr} (h1 : a ≠ b) (h2 : a ≠ c) (h3 : a ≠ d) (h4 : b ≠ c) (h5 : b ≠ d) (h6 : c ≠ d) : [a, b, c, d].Nodup := by
  simp only [List.nodup_cons, List.mem_cons, List.not_mem_nil, or_false, not_or, not_false_eq_true, List.nodup_nil, and_true]
  exact ⟨⟨h1, h2, h3⟩, ⟨h4, h5⟩, h6⟩
theorem turn_a {P Tb p0 p1 p2 d0 d1 d2 : Addr} {m nu ld nP n0 n1 n2 : Nat} {u1 u2 u3 : Tok} {ps qs0 qs1 qs2 : List Addr}
    (hA : A.handled = none) (hd : A.depth + 40 < recursionLimit) (G : Gd w h) (aP : At w h P (lstO (ps.map .ref) nP))
    (a0 : At w h p0 (accO d0 qs0 n0)) (a1 : At w h p1 (accO d1 qs1 n1)) (a2 : At w h p2 (accO d2 qs2 n2))
    (e0 : ps[m]? = some p0) (e1 : ps[m + 1]? = some p1) (e2 : ps[m + 2]? = some p2) (hps : ps.length ≤ 100) (hq0 : qs0.length ≤ 100) (hq1 : qs1.length ≤ 100) (hq2 : qs2.length ≤ 100)
    (k : ∀ h' tk' F H K en NL l0 l1 l2 kn k0 k1 k2, Kp [] h h' → Gd w h' → At w h' F (frL H K (turn1 (m + 1) nu ld u1 u2 u3 Tb NL) en) → At w h' (F + 1) (cellO (.ref P)) → At w h' NL (lstO [.ref l0, .ref l1, .ref l2] kn) → At w h' l0 (lstO (qs0.map .ref) k0) → At w h' l1 (lstO (qs1.map .ref) k1) → At w h' l2 (lstO (qs2.map .ref) k2) →
      h.get? F = none → [NL, l0, l1, l2].Nodup → h.get? l1 = none →
      wpAny (model pw w) (A.deeper (E171 w F)) (execs ((B171 w).drop 1) (E171 w F)) (fun f s' => R (.ok (.ret (valOf f))) s') (fun _ _ => False) ⟨h', g, dr, tk', os⟩) :
    codeAny (model pw w) A (.call (.ref 171) ⟨[.ref P, .int (m + 1 : Nat) u1, .int nu u2, .int ld u3, .ref Tb], []⟩) R ⟨h, g, dr, tk, os⟩ := by
  obtain ⟨Z, D⟩ : ∃ Z, Rep (KTw w) h [P] h [(P, lstO (ps.map .ref) nP)] Z := Rep.initC (T := [(P, lstO (ps.map .ref) nP)]) G (oc aP on) (by kernel_rfl)
  refine start (Q := fun _ _ => True) (E := fun _ _ => True) ?_
  refine eng 22 751211841762989236594779649778157516301150294376448 (by exact hA) D (by kernel_rfl) ?_
  intro χ1 h1 D1
  refine enterB 171 1 D1 (by kernel_rfl) (by omega) ?_
  refine body ?_
  refine atCut 1 ?_
  refine top_execs (R := R) ?_
  intro θ
  refine eng 24 24615709625158339787380989689040018584859535182059798528 (by exact hA) D1 (by kernel_rfl) ?_
  intro χ2 h2 D2
  refine eng2 "special-get-raises" 1 0 1 0 (by exact hA) D2 (by kernel_rfl) ?_
  intro χ3 h3 D3
  refine eng 9 1099511628032 (by exact hA) D3 (by kernel_rfl) ?_
  intro χ4 h4 D4
  refine hook (c' := .compStart (nearE ⟨63, 13, 63, 18⟩ ⟨63, 23, 63, 28⟩ ⟨63, 32, 63, 38⟩ ⟨63, 39, 63, 40⟩ ⟨63, 32, 63, 41⟩ ⟨63, 12, 63, 42⟩ ⟨63, 47, 63, 48⟩ (.Tuple [.BinOp (.Name "k" ⟨63, 53, 63, 54⟩) .Sub (.Constant (.int 1) 0 ⟨63, 57, 63, 58⟩) ⟨63, 53, 63, 58⟩, .Name "k" ⟨63, 60, 63, 61⟩, .BinOp (.Name "k" ⟨63, 63, 63, 64⟩) .Add (.Constant (.int 1) 0 ⟨63, 67, 63, 68⟩) ⟨63, 63, 63, 68⟩] 0 ⟨63, 52, 63, 69⟩) ⟨63, 11, 63, 70⟩) 0 (.ref (adrAt χ4.T 2)) (.ref (adrAt χ4.T 1)) (cEnvAt nearS (adrAt χ4.T 0) [("places", adrAt χ4.T 4)] (fdOf (slook (KTw w) 171)) (adrAt χ4.T 5))) (by kernel_rfl) ?_
  have K4 : Kp [] h h4 := Rep.kpF 6 [true] D D4 (by kernel_rfl)
  have b0 := D4.at_ (a := adrAt χ4.T 0) (o := nsO #[] 0) 0 (by kernel_rfl)
  have b1 := D4.at_ (a := adrAt χ4.T 1) (o := lstX #[] 0) 1 (by kernel_rfl)
  have b2 := D4.at_ (a := adrAt χ4.T 2) (o := tiO (.ref (adrAt χ4.T 3)) (.int 0 0)) 2 (by kernel_rfl)
  have b3 := D4.at_ (a := adrAt χ4.T 3) (o := tplX #[.int (((m + 1 : Nat) : Int) - 1) (sqT (objAt χ4.T 3) 0), .int (m + 1 : Nat) u1, .int (((m + 1 : Nat) : Int) + 1) (sqT (objAt χ4.T 3) 2)]) 3 (by kernel_rfl)
  have b4 := D4.at_ (a := adrAt χ4.T 4) (o := cellO (.ref P)) 4 (by kernel_rfl)
  have b6 := D4.at_ (a := P) (o := lstO (ps.map .ref) nP) 6 (by kernel_rfl)
  rw [show ((m + 1 : Nat) : Int) - 1 = (m : Nat) from by omega, show ((m + 1 : Nat) : Int) + 1 = ((m + 2 : Nat) : Int) from by omega] at b3
  refine near_spec (p0 := p0) (p1 := p1) (p2 := p2) (d0 := d0) (d1 := d1) (d2 := d2) (n0 := n0) (n1 := n1) (n2 := n2) (m0 := m) (m1 := m + 1) (m2 := m + 2) (qs0 := qs0) (qs1 := qs1) (qs2 := qs2) (ps := ps) (nP := nP) (na := 0) (en := 0) (ti := 0) (ac_handled hA) D4.gd b0 b1 b2 b4 b6 (a0.kp K4 (nin0 _)) (a1.kp K4 (nin0 _)) (a2.kp K4 (nin0 _)) b3 e0 e1 e2 hps hq0 hq1 hq2 (D4.apart (o := lstX #[] 0) (o' := lstO (ps.map .ref) nP) 1 6 (by kernel_rfl)) ?_
  intro h5 tk5 es5 en5 na5 l0 l1 l2 k0 k1 k2 K5 G5 o5 c0 c1 cl0 cl1 cl2 f0 f1 f2 n01 n02 n12
  obtain ⟨oi, hoi⟩ := K5.1 _ _ b2.1
  refine Exists.elim (D4.turnL [(0, nsO es5 en5), (1, lstX #[.ref l0, .ref l1, .ref l2] na5), (2, oi)] K5 (by kernel_rfl) (by kernel_rfl) (all3 c0.1 c1.1 hoi)) ?_
  intro Z5 D5
  obtain ⟨h5a, h5t, h5v, rfl⟩ := o5
  have D5c := D5.more3 D4 (setAll_keys _ _) cl0 f0 cl1 f1 cl2 f2 n01 n02 n12
  clear D5
  refine eng 13 1242775816353358256831201280 (by exact hA) D5c (by kernel_rfl) ?_
  intro χ6 h6 D6
  refine finQ (f := .done .next) (by kernel_rfl) ?_
  have aF := D6.at_ (a := adrAt χ1.T 1) (o := frL (eHi (objAt χ6.T 8)) (eKi (objAt χ6.T 8)) (turn1 (m + 1) nu ld u1 u2 u3 Tb (adrAt χ4.T 1)) (eNd (objAt χ6.T 8))) 8 (by kernel_rfl)
  have aC := D6.at_ (a := adrAt χ1.T 1 + 1) (o := cellO (.ref P)) 7 (by kernel_rfl)
  have aN := D6.at_ (a := adrAt χ4.T 1) (o := lstO [.ref l0, .ref l1, .ref l2] na5) 4 (by kernel_rfl)
  have w0 := D6.at_ (a := l0) (o := lstO (qs0.map .ref) k0) 0 (by kernel_rfl)
  have w1 := D6.at_ (a := l1) (o := lstO (qs1.map .ref) k1) 1 (by kernel_rfl)
  have w2 := D6.at_ (a := l2) (o := lstO (qs2.map .ref) k2) 2 (by kernel_rfl)
  have fF := D6.fresh_ (a := adrAt χ1.T 1) (o := objAt χ6.T 8) 8 (by kernel_rfl) (nin1 (D6.apart (a := adrAt χ1.T 1) (o := objAt χ6.T 8) (b := P) (o' := lstO (ps.map .ref) nP) 8 9 (by kernel_rfl)))
  have fl := D6.fresh_ (a := l1) (o := lstO (qs1.map .ref) k1) 1 (by kernel_rfl) (nin1 (D6.apart (a := l1) (o := lstO (qs1.map .ref) k1) (b := P) (o' := lstO (ps.map .ref) nP) 1 9 (by kernel_rfl)))
  have m0 := D6.apart (a := adrAt χ4.T 1) (o := lstO [.ref l0, .ref l1, .ref l2] na5) (b := l0) (o' := lstO (qs0.map .ref) k0) 4 0 (by kernel_rfl)
  have m1 := D6.apart (a := adrAt χ4.T 1) (o := lstO [.ref l0, .ref l1, .ref l2] na5) (b := l1) (o' := lstO (qs1.map .ref) k1) 4 1 (by kernel_rfl)
  have m2 := D6.apart (a := adrAt χ4.T 1) (o := lstO [.ref l0, .ref l1, .ref l2] na5) (b := l2) (o' := lstO (qs2.map .ref) k2) 4 2 (by kernel_rfl)
  have nd := nd4 m0 m1 m2 n01 n02 n12
  have K6 : Kp [] h h6 := Rep.kpF 9 [true] D D6 (by kernel_rfl)
  exact k h6 _ _ _ _ _ _ l0 l1 l2 na5 k0 k1 k2 K6 D6.gd aF aC aN w0 w1 w2 fF nd fl
end Mine
namespace Mine
open PySem PySem.W PySem.W.X PyProof.Rows
open PySem.Builtin
variable {w : World} {A : Around} {R : Result → Shared → Prop} {h : Heap} {g : Array GenState} {dr : Drawn} {tk : Nat} {os : OsState}
theorem floordiv_spec {prog : Program} {x y : Int} {t u : Tok} (a b : Nat) (hx : x = (a : Nat)) (hy : y = (b : Nat)) (hb : 0 < b) (hb2 : b < 1073741824) (k : ∀ tk' v, R (.ok (.ret (.int ((a / b : Nat) : Int) v))) ⟨h, g, dr, tk', os⟩) :
    codeAny (model prog w) A (.call (.builtin "int.__floordiv__") ⟨[.int x t, .int y u], []⟩) R ⟨h, g, dr, tk, os⟩ := by
  subst hx hy
  refine hk_gives F.slot_int_floordiv (typeIs_int _ _ _) F.entry_int_floordiv (F.args_int_floordiv_2 _ _) (AutoIntG4.int___floordiv___int_int_1 _ t _ u (by simp; omega) (by rw [PyProof.noPylong_small (by simpa using hb2)]; simp)) ?_
  rw [← Int.ofNat_fdiv]
  exact k _ _
theorem mod_spec {prog : Program} {x y : Int} {t u : Tok} (a b : Nat) (hx : x = (a : Nat)) (hy : y = (b : Nat)) (hb : 0 < b) (hb2 : b < 1073741824) (k : ∀ tk' v, R (.ok (.ret (.int ((a % b : Nat) : Int) v))) ⟨h, g, dr, tk', os⟩) :
    codeAny (model prog w) A (.call (.builtin "int.__mod__") ⟨[.int x t, .int y u], []⟩) R ⟨h, g, dr, tk, os⟩ := by
  subst hx hy
  refine hk_gives F.slot_int_mod (typeIs_int _ _ _) F.entry_int_mod (F.args_int_mod_2 _ _) (AutoIntG6.int___mod___int_int_1 _ t _ u (by simp; omega)) ?_
  rw [← Int.ofNat_fmod]
  exact k _ _
end Mine
namespace Mine
open PySem PySem.W PySem.W.X PyProof.Rows
open PySem.Builtin
set_option maxHeartbeats 0
variable {w : World} {A : Around} {R : Result → Shared → Prop} {h : Heap} {g : Array GenState} {dr : Drawn} {tk : Nat} {os : OsState}
def eTi (o : Obj) (i : Nat) : Tok := match o.data with
  | .dict es _ => iT ((es[i]?).map (·.val))
  | _ => 0
def tI (n nu : Nat) : Nat := nu / 9 % (n - 1)
def tJ (n nu : Nat) : Nat := tI n nu + 1 + nu / 63 % (n - 1 - tI n nu)
abbrev turn2 (k nu ld n : Nat) (u1 u2 u3 u4 u5 : Tok) (Tb NL l1 : Addr) : List (Str × Value) := turn1 k nu ld u1 u2 u3 Tb NL ++ ([("row", .ref l1), ("i", .int (tI n nu : Nat) u4), ("j", .int (tJ n nu : Nat) u5)] : List (Str × Value))
theorem turn_b {E : Value → Shared → Prop} {Q : Flow → Shared → Prop} {F Tb NL l0 l1 l2 : Addr} {H : Nat → Int} {K : Nat → Tok} {k nu ld en kn k1 : Nat} {u1 u2 u3 : Tok} {qs1 : List Addr}
    (hA : A.handled = none) (G : Gd w h) (aF : At w h F (frL H K (turn1 k nu ld u1 u2 u3 Tb NL) en)) (aN : At w h NL (lstO [.ref l0, .ref l1, .ref l2] kn)) (a1 : At w h l1 (lstO (qs1.map .ref) k1)) (hn : 2 ≤ qs1.length) (hn2 : qs1.length ≤ 100) (hne : NL ≠ l1) (hnu : nu < 2 ^ 60)
    (k' : ∀ h' tk' H' K' en' u4 u5, Kp [F] h h' → Gd w h' → At w h' F (frL H' K' (turn2 k nu ld qs1.length u1 u2 u3 u4 u5 Tb NL l1) en') → wpAny (model pw w) A (execs ((B171 w).drop 4) (E171 w F)) Q E ⟨h', g, dr, tk', os⟩) :
    wpAny (model pw w) A (execs ((B171 w).drop 1) (E171 w F)) Q E ⟨h, g, dr, tk, os⟩ := by
  have nF1 := ne_of_cls aF.1 aN.1 (by kernel_rfl)
  have nF2 := ne_of_cls aF.1 a1.1 (by kernel_rfl)
  obtain ⟨Z, D⟩ : ∃ Z, Rep (KTw w) h [F, NL, l1] h [(F, frL H K (turn1 k nu ld u1 u2 u3 Tb NL) en), (NL, lstO [.ref l0, .ref l1, .ref l2] kn), (l1, lstO (qs1.map .ref) k1)] Z := ⟨_, Rep.init (T := [(F, frL H K (turn1 k nu ld u1 u2 u3 Tb NL) en), (NL, lstO [.ref l0, .ref l1, .ref l2] kn), (l1, lstO (qs1.map .ref) k1)]) G (oc aF (oc aN (oc a1 on))) (by simp [nF1, nF2, hne])⟩
  refine atCut 3 ?_
  refine top_execs (R := fun _ _ => True) ?_
  intro θ
  refine eng 25 95780971326505911131859073204056130668658303097176064 (by exact hA) D (by kernel_rfl) ?_
  intro χ1 h1 D1
  refine hook2 (fun u v => .call (.builtin "int.__floordiv__") ⟨[.int (nu : Nat) u, .int 9 v], []⟩) (by kernel_rfl) ?_
  intro u v
  refine floordiv_spec nu 9 rfl rfl (by decide) (by decide) ?_
  intro tk2 v2
  have D2 := D1
  refine eng 6 4294967296 (by exact hA) D2 (by kernel_rfl) ?_
  intro χ3 h3 D3
  refine hook (c' := .call (.builtin "len") ⟨[.ref l1], []⟩) (by kernel_rfl) ?_
  refine lenlst_spec (vs := qs1.map Value.ref) (n := k1) (ac_handled hA) D3.gd (D3.at_ 2 (by kernel_rfl)) (by simp; omega) ?_
  intro h4 tk4 v4 K4
  rw [List.length_map]
  refine Exists.elim ((D3.same K4).ex) ?_
  intro Z4 D4
  refine eng 8 0 (by exact hA) D4 (by kernel_rfl) ?_
  intro χ5 h5 D5
  refine hook2 (fun u v => .call (.builtin "int.__mod__") ⟨[.int ((nu / 9 : Nat) : Int) u, .int ((qs1.length : Int) - 1) v], []⟩) (by kernel_rfl) ?_
  intro u6 v6
  refine mod_spec (nu / 9) (qs1.length - 1) rfl (by omega) (by omega) (by omega) ?_
  intro tk6 v7
  have D6 := D5
  refine eng 20 87112285931760246651346265986506113941504 (by exact hA) D6 (by kernel_rfl) ?_
  intro χ7 h7 D7
  refine hook2 (fun u v => .call (.builtin "int.__floordiv__") ⟨[.int (nu : Nat) u, .int 63 v], []⟩) (by kernel_rfl) ?_
  intro u8 v8
  refine floordiv_spec nu 63 rfl rfl (by decide) (by decide) ?_
  intro tk8 v9
  have D8 := D7
  refine eng 6 4294967296 (by exact hA) D8 (by kernel_rfl) ?_
  intro χ9 h9 D9
  refine hook (c' := .call (.builtin "len") ⟨[.ref l1], []⟩) (by kernel_rfl) ?_
  refine lenlst_spec (vs := qs1.map Value.ref) (n := k1) (ac_handled hA) D9.gd (D9.at_ 2 (by kernel_rfl)) (by simp; omega) ?_
  intro h10 tk10 v10 K10
  rw [List.length_map]
  refine Exists.elim ((D9.same K10).ex) ?_
  intro Z10 D10
  refine eng 15 18446744073709551616 (by exact hA) D10 (by kernel_rfl) ?_
  intro χ11 h11 D11
  refine hook2 (fun u v => .call (.builtin "int.__mod__") ⟨[.int ((nu / 63 : Nat) : Int) u, .int ((qs1.length : Int) - 1 - (tI qs1.length nu : Nat)) v], []⟩) (by kernel_rfl) ?_
  intro u12 v12
  have hi : tI qs1.length nu < qs1.length - 1 := Nat.mod_lt _ (by omega)
  refine mod_spec (nu / 63) (qs1.length - 1 - tI qs1.length nu) rfl (by omega) (by omega) (by omega) ?_
  intro tk12 v13
  have D12 := D11
  refine eng 12 1213648186097498819919872 (by exact hA) D12 (by kernel_rfl) ?_
  intro χ13 h13 D13
  refine finQ (f := .done .next) (by kernel_rfl) ?_
  have aF' := D13.at_ (a := F) (o := frL (eHi (objAt χ13.T 0)) (eKi (objAt χ13.T 0)) (turn1 k nu ld u1 u2 u3 Tb NL ++ ([("row", .ref l1), ("i", .int (tI qs1.length nu : Nat) (eTi (objAt χ13.T 0) 6)), ("j", .int ((tI qs1.length nu : Nat) + 1 + (nu / 63 % (qs1.length - 1 - tI qs1.length nu) : Nat)) (eTi (objAt χ13.T 0) 7))] : List (Str × Value))) (eNd (objAt χ13.T 0))) 0 (by kernel_rfl)
  rw [show ((tI qs1.length nu : Nat) : Int) + 1 + (nu / 63 % (qs1.length - 1 - tI qs1.length nu) : Nat) = (tJ qs1.length nu : Nat) from by unfold tJ; push_cast; rfl] at aF'
  have K' : Kp [F] h h13 := Rep.kpF 0 [false, true, true] D D13 (by kernel_rfl)
  exact k' h13 _ _ _ _ _ _ K' D13.gd aF'
end Mine
namespace Mine
open PySem PySem.W PySem.W.X PyProof.Rows
open PySem.Builtin PySem.Builtin.List
variable {w : World} {A : Around} {R : Result → Shared → Prop} {h : Heap} {g : Array GenState} {dr : Drawn} {tk : Nat} {os : OsState}
theorem getslice_acc {p sl : Addr} {d : Addr} {n Z : Nat} {xs : Array Value} {vl vu vs : Value} {lo hi st : Option Int}
    (hA : A.handled = none) (D : Rep (KTw w) h [p, sl] h [(p, accX d xs n), (sl, slcG vl vu vs)] Z) (pl : IsPart vl lo) (pu : IsPart vu hi) (ps : IsPart vs st) (h0 : st ≠ some 0) (hsz : xs.size ≤ 1000)
    (k : ∀ h' tk' q, Kp [] h h' → At w h' q (lstX (slicePick xs lo hi st) 0) → h.get? q = none → R (.ok (.ret (.ref q))) ⟨h', g, dr, tk', os⟩) :
    codeAny (model pw w) A (.call (.builtin "list.__getitem__") ⟨[.ref p, .ref sl], []⟩) R ⟨h, g, dr, tk, os⟩ := by
  refine codeAny_call_builtin_at (b := Builtin.«list.__getitem__») (by kernel_rfl) (entryFor_of_tree (by kernel_rfl)) ?_
  refine top_any (R := R) (fun _ => .done .next) ?_
  intro θ
  refine eng 2 1 (by exact hA) D (by kernel_rfl) ?_
  intro χ1 h1' D1
  refine finQ (f := .done .next) (by kernel_rfl) ?_
  intro _ _
  have hp := D1.at (j := 0) (x := (p, accX d xs n)) (by kernel_rfl)
  have hsl := D1.at (j := 1) (x := (sl, slcG vl vu vs)) (by kernel_rfl)
  have K1 : Kp [] h h1' := D.ro D1 (by kernel_rfl) rfl
  have G1 := D1.gd
  clear D1
  dsimp only at hp hsl
  generalize tk + Cf.i _ = tk'
  have hTs : (⟨h1', g, dr, tk', os⟩ : Shared).TypeIs (.ref sl) "slice" := ⟨_, hsl, rfl⟩
  show wpAny _ _ (listSubscript? (.ref sl) >>= _) _ _ _
  refine wpAny_bind ?_
  unfold listSubscript?
  refine wpAny_bind (wpAny_specialOf hTs slice_no_index ?_)
  simp only [Option.isNone_none, if_true]
  refine wpAny_pure ?_
  show wpAny _ _ (typeOf (.ref sl) >>= _) _ _ _
  refine wpAny_bind (wpAny_typeOf hTs ?_)
  rw [if_neg (by decide)]
  rw [listSliceParts_eq]
  have hstep : ¬ ((rawPart st == rawInt 0) = true) := by
    cases st with
    | none => exact Bool.false_ne_true
    | some c =>
      intro hh
      have : c = 0 := by simpa [rawPart, rawInt] using hh
      exact h0 (by rw [this])
  refine wpAny_bind (wpAny_bind (wpAny_field hsl rfl (x := vs) rfl (wpAny_bind (wpAny_listPart ps ?_))))
  rw [if_neg hstep]
  refine wpAny_bind (wpAny_field hsl rfl (x := vl) rfl (wpAny_bind (wpAny_listPart pl ?_)))
  refine wpAny_bind (wpAny_field hsl rfl (x := vu) rfl (wpAny_bind (wpAny_listPart pu (wpAny_pure ?_))))
  refine wpAny_bind (m := listItems (.ref p)) ?_
  unfold listItems
  refine wpAny_bind (wpAny_seqItems hp rfl (wpAny_pure ?_))
  refine wpAny_bind (wpAny_of_eq (sliceIndices_raw lo hi st xs.size h0) ?_)
  refine wpAny_bind (wpAny_newObj_type ?_ (Nat.le_trans (slicePick_size_le xs lo hi st) (by simp only [sizeLine]; omega)))
  have hn : h1'.get? h1'.objs.size = none := get_size h1'
  exact wpAny_pure (k _ _ _ (K1.push _) ⟨Heap.get?_push_size _ rfl, off_fresh G1 hn⟩ (K1.fresh hn))
theorem getslice_lst {p sl : Addr} {n Z : Nat} {xs : Array Value} {vl vu vs : Value} {lo hi st : Option Int}
    (hA : A.handled = none) (D : Rep (KTw w) h [p, sl] h [(p, lstX xs n), (sl, slcG vl vu vs)] Z) (pl : IsPart vl lo) (pu : IsPart vu hi) (ps : IsPart vs st) (h0 : st ≠ some 0) (hsz : xs.size ≤ 1000)
    (k : ∀ h' tk' q, Kp [] h h' → At w h' q (lstX (slicePick xs lo hi st) 0) → h.get? q = none → R (.ok (.ret (.ref q))) ⟨h', g, dr, tk', os⟩) :
    codeAny (model pw w) A (.call (.builtin "list.__getitem__") ⟨[.ref p, .ref sl], []⟩) R ⟨h, g, dr, tk, os⟩ := by
  refine codeAny_call_builtin_at (b := Builtin.«list.__getitem__») (by kernel_rfl) (entryFor_of_tree (by kernel_rfl)) ?_
  refine top_any (R := R) (fun _ => .done .next) ?_
  intro θ
  refine eng 1 1 (by exact hA) D (by kernel_rfl) ?_
  intro χ1 h1' D1
  refine finQ (f := .done .next) (by kernel_rfl) ?_
  intro _ _
  have hp := D1.at (j := 0) (x := (p, lstX xs n)) (by kernel_rfl)
  have hsl := D1.at (j := 1) (x := (sl, slcG vl vu vs)) (by kernel_rfl)
  have K1 : Kp [] h h1' := D.ro D1 (by kernel_rfl) rfl
  have G1 := D1.gd
  clear D1
  dsimp only at hp hsl
  generalize tk + Cf.i _ = tk'
  have hTs : (⟨h1', g, dr, tk', os⟩ : Shared).TypeIs (.ref sl) "slice" := ⟨_, hsl, rfl⟩
  show wpAny _ _ (listSubscript? (.ref sl) >>= _) _ _ _
  refine wpAny_bind ?_
  unfold listSubscript?
  refine wpAny_bind (wpAny_specialOf hTs slice_no_index ?_)
  simp only [Option.isNone_none, if_true]
  refine wpAny_pure ?_
  show wpAny _ _ (typeOf (.ref sl) >>= _) _ _ _
  refine wpAny_bind (wpAny_typeOf hTs ?_)
  rw [if_neg (by decide)]
  rw [listSliceParts_eq]
  have hstep : ¬ ((rawPart st == rawInt 0) = true) := by
    cases st with
    | none => exact Bool.false_ne_true
    | some c =>
      intro hh
      have : c = 0 := by simpa [rawPart, rawInt] using hh
      exact h0 (by rw [this])
  refine wpAny_bind (wpAny_bind (wpAny_field hsl rfl (x := vs) rfl (wpAny_bind (wpAny_listPart ps ?_))))
  rw [if_neg hstep]
  refine wpAny_bind (wpAny_field hsl rfl (x := vl) rfl (wpAny_bind (wpAny_listPart pl ?_)))
  refine wpAny_bind (wpAny_field hsl rfl (x := vu) rfl (wpAny_bind (wpAny_listPart pu (wpAny_pure ?_))))
  refine wpAny_bind (m := listItems (.ref p)) ?_
  unfold listItems
  refine wpAny_bind (wpAny_seqItems hp rfl (wpAny_pure ?_))
  refine wpAny_bind (wpAny_of_eq (sliceIndices_raw lo hi st xs.size h0) ?_)
  refine wpAny_bind (wpAny_newObj_type ?_ (Nat.le_trans (slicePick_size_le xs lo hi st) (by simp only [sizeLine]; omega)))
  have hn : h1'.get? h1'.objs.size = none := get_size h1'
  exact wpAny_pure (k _ _ _ (K1.push _) ⟨Heap.get?_push_size _ rfl, off_fresh G1 hn⟩ (K1.fresh hn))
abbrev slcO (i : Int) (it : Tok) : Obj := slcG (.int i it) .none .none
theorem setslice {p d sl l : Addr} {n Z : Nat} {i : Int} {it : Tok} {xs : Array Value}
    (hA : A.handled = none) (D : Rep (KTw w) h [p, sl, l] h [(p, { cls := .ref 101, dict := some d, data := .seq xs n, slots := #[] }), (sl, slcO i it), (l, lstO [] 0)] Z) (h0 : 0 ≤ i) (h1 : i ≤ xs.size) (hsz : xs.size ≤ 100)
    (k : ∀ h' tk' n', Kp [p] h h' → h'.get? p = some { cls := .ref 101, dict := some d, data := .seq (xs.extract 0 i.toNat) n', slots := #[] } → R (.ok (.ret .none)) ⟨h', g, dr, tk', os⟩) :
    codeAny (model pw w) A (.call (.builtin "list.__setitem__") ⟨[.ref p, .ref sl, .ref l], []⟩) R ⟨h, g, dr, tk, os⟩ := by
  have hp := D.at (j := 0) rfl
  have hsl := D.at (j := 1) rfl
  have hl := D.at (j := 2) rfl
  dsimp only at hp hsl hl
  have hne : p ≠ l := ne_of_cls hp hl (by kernel_rfl)
  refine codeAny_call_builtin_at (b := Builtin.«list.__setitem__») (by kernel_rfl) (entryFor_of_tree (by kernel_rfl)) ?_
  refine top_any (R := R) (fun _ => .done .next) ?_
  intro θ
  refine eng 2 1 (by exact hA) D (by kernel_rfl) ?_
  intro χ1 h1' D1
  refine finQ (f := .done .next) (by kernel_rfl) ?_
  intro _ _
  have hp := D1.at (j := 0) (x := (p, { cls := .ref 101, dict := some d, data := .seq xs n, slots := #[] })) (by kernel_rfl)
  have hsl := D1.at (j := 1) (x := (sl, slcO i it)) (by kernel_rfl)
  have hl := D1.at (j := 2) (x := (l, lstO [] 0)) (by kernel_rfl)
  dsimp only at hp hsl hl
  generalize tk + Cf.i _ = tk'
  have K1 := D1.keep
  clear D1
  have e1 : listSameRef (.ref p) (.ref l) = false := by simpa [listSameRef] using hne
  have hTs : (⟨h1', g, dr, tk', os⟩ : Shared).TypeIs (.ref sl) "slice" := ⟨_, hsl, rfl⟩
  have hTl : (⟨h1', g, dr, tk', os⟩ : Shared).TypeIs (.ref l) "list" := ⟨_, hl, rfl⟩
  show wpAny _ _ (listSubscript? (.ref sl) >>= _) _ _ _
  refine wpAny_bind ?_
  unfold listSubscript?
  refine wpAny_bind (wpAny_specialOf hTs slice_no_index ?_)
  simp only [Option.isNone_none, if_true]
  refine wpAny_pure ?_
  show wpAny _ _ (typeOf (.ref sl) >>= _) _ _ _
  refine wpAny_bind (wpAny_typeOf hTs ?_)
  rw [if_neg (by decide)]
  rw [listSliceParts_eq]
  refine wpAny_bind (wpAny_bind (wpAny_field hsl rfl (x := .none) rfl (wpAny_bind (wpAny_listPart .none ?_))))
  rw [if_neg (by decide)]
  refine wpAny_bind (wpAny_field hsl rfl (x := .int i it) rfl (wpAny_bind (wpAny_listPart (.int i it) ?_)))
  refine wpAny_bind (wpAny_field hsl rfl (x := .none) rfl (wpAny_bind (wpAny_listPart .none (wpAny_pure ?_))))
  dsimp only
  rw [e1, if_neg Bool.false_ne_true]
  refine wpAny_bind (m := listAllItems (.ref l) _) ?_
  unfold listAllItems
  refine wpAny_bind (wpAny_typeOf hTl ?_)
  rw [if_pos (by decide)]
  unfold listItems
  refine wpAny_bind (wpAny_seqItems hl rfl (wpAny_pure ?_))
  refine wpAny_bind (wpAny_bind (wpAny_seqItems hp rfl (wpAny_pure ?_)))
  refine wpAny_bind (wpAny_of_eq (sliceIndices_raw (some i) none none xs.size (by simp)) ?_)
  have eb : sliceBounds (some i) none none xs.size = (i, (xs.size : Int), 1) := by
    unfold sliceBounds
    simp only [Option.getD_none]
    have : ¬ i < 0 := by omega
    simp only [this, if_false, show (1 : Int) > 0 from by decide, if_true]
    congr 1
    omega
  rw [eb]
  dsimp only
  rw [if_pos (by decide)]
  refine wpAny_bind (wpAny_rule ?_)
  rw [if_neg (by simp [listTooLong, sizeLine]; omega)]
  have e2 : (max i (xs.size : Int)).toNat = xs.size := by omega
  unfold listUpdate
  refine wpAny_bind (wpAny_updateSeq hp rfl ?_ (by simp [sizeLine]; omega) (by simp [sizeLine]; omega))
  refine wpAny_bind (wpAny_letGo (wpAny_bind (wpAny_pure (wpAny_pure ?_))))
  have hs : Heap.SameBut p h1' (h1'.update p (Obj.mapSeq fun xs_1 => xs_1.extract 0 i.toNat ++ #[] ++ xs_1.extract (Max.max i ↑xs.size).toNat)) := Heap.SameBut.update ..
  have ge := Heap.get?_update_self (Obj.mapSeq fun xs_1 => xs_1.extract 0 i.toNat ++ #[] ++ xs_1.extract (Max.max i ↑xs.size).toNat) hp rfl
  refine k _ _ (if (xs.extract 0 i.toNat).size == xs.size then n else n + 1) ⟨fun b o e => ?_, fun b o e hb => ?_⟩ (ge.trans ?_)
  · obtain ⟨o', q⟩ := K1.1 b o e
    by_cases z : b = p
    · subst z; exact ⟨_, ge⟩
    · exact ⟨o', (hs.2 b z).trans q⟩
  · have hb : b ≠ p := by simpa using hb
    refine (hs.2 b hb).trans ?_
    by_cases z1 : b = sl
    · subst z1
      have := D.at (j := 1) rfl
      dsimp only at this
      rw [this] at e; rw [← e]; exact hsl
    · by_cases z2 : b = l
      · subst z2
        have := D.at (j := 2) rfl
        dsimp only at this
        rw [this] at e; rw [← e]; exact hl
      · exact K1.2 b o e (by simp [hb, z1, z2])
  · have e3 : xs.extract xs.size = #[] := by simp
    simp only [Obj.mapSeq, e2, Array.append_empty, e3]
end Mine
namespace Mine
open PySem PySem.W PySem.W.X PyProof.Rows
variable {w : World} {A : Around} {R : Result → Shared → Prop} {h : Heap} {g : Array GenState} {dr : Drawn} {tk : Nat} {os : OsState}
theorem popfrom {p d : Addr} {n Z : Nat} {hs f : Int} {tk1 tk2 it : Tok} {qs : List Addr} {i : Nat}
    (hA : A.handled = none) (hd : A.depth + 1 < recursionLimit) (D : Rep (KTw w) h [p, d] h [(p, accO d qs n), (d, dctO hs tk1 f tk2)] Z) (hi : i ≤ qs.length) (hm : qs.length ≤ 100)
    (k : ∀ h' tk' l n', Kp [p] h h' → At w h' l (lstO ((qs.drop i).map .ref) 0) → h.get? l = none → At w h' p (accO d (qs.take i) n') → R (.ok (.ret (.ref l))) ⟨h', g, dr, tk', os⟩) :
    codeAny (model pw w) A (.call (.ref 53) ⟨[.ref p, .int i it], []⟩) R ⟨h, g, dr, tk, os⟩ := by
  refine start (Q := fun _ _ => True) (E := fun _ _ => True) ?_
  refine eng 12 310693935713298766914125824 (by exact hA) D (by kernel_rfl) ?_
  intro χ1 h1 D1
  refine enterD 0 53 0 D1 (by kernel_rfl) (by omega) ?_
  refine eng 18 15577128260092081018837590276571136 (by exact hA) D1 (by kernel_rfl) ?_
  intro χ2 h2 D2
  refine hook (c' := .call (.builtin "list.__getitem__") ⟨[.ref p, .ref (adrAt χ2.T 0)], []⟩) (by kernel_rfl) ?_
  refine getslice_acc (d := d) (n := n) (xs := (qs.map Value.ref).toArray) (vl := .int i it) (vu := .none) (vs := .none) (ac_handled hA) (D2.two 2 0 (by kernel_rfl) (by kernel_rfl) rfl) (.int i it) .none .none (by simp) (by simp; omega) ?_
  intro h3 tk3 l K3 al hl
  refine Exists.elim ((D2.plus K3 al hl).ex) ?_
  intro Z3 D3
  refine eng 23 34254467298679397211225532377757218552116412416 (by exact hA) D3 (by kernel_rfl) ?_
  intro χ4 h4 D4
  refine hook (c' := .call (.builtin "list.__setitem__") ⟨[.ref p, .ref (adrAt χ4.T 0), .ref (adrAt χ4.T 1)], []⟩) (by kernel_rfl) ?_
  refine setslice (d := d) (n := n) (xs := (qs.map Value.ref).toArray) (i := i) (it := it) (ac_handled hA) (D4.three 5 0 1 (by kernel_rfl) (by kernel_rfl) (by kernel_rfl) rfl rfl rfl) (by omega) (by simp; omega) (by simp; omega) ?_
  intro h5 tk5 n5 K5 a5
  refine Exists.elim ((D4.turn (j := 5) (x := (p, accO d qs n)) (by kernel_rfl) K5 a5).ex) ?_
  intro Z5 D5
  refine eng 5 21474836480 (by exact hA) D5 (by kernel_rfl) ?_
  intro χ6 h6 D6
  refine fin (f := .ret (.ref l)) (by kernel_rfl) ?_
  have al := D6.at_ (a := l) (o := lstX (slicePick (qs.map Value.ref).toArray (some i) none none) 0) 2 (by kernel_rfl)
  have ap := D6.at_ (a := p) (o := accX d ((qs.map Value.ref).toArray.extract 0 (i : Int).toNat) n5) 5 (by kernel_rfl)
  rw [slicePick_from'] at al
  have e1 : (qs.map Value.ref).toArray.extract 0 (i : Int).toNat = ((qs.take i).map Value.ref).toArray := by simp
  rw [e1] at ap
  have e2 : ((qs.map Value.ref).toArray.toList.drop i) = (qs.drop i).map Value.ref := by simp
  rw [e2] at al
  exact k h6 _ l n5 (kp_two D6.keep (fun _ => D.at (j := 1) rfl) (D6.at (j := 6) (x := (d, dctO hs tk1 f tk2)) (by kernel_rfl))) al (D2.keep.fresh hl) ap
theorem popfrom_spec {p d : Addr} {n : Nat} {hs f : Int} {tk1 tk2 it : Tok} {qs : List Addr} {i : Nat}
    (hA : A.handled = none) (hd : A.depth + 1 < recursionLimit) (G : Gd w h) (hp : At w h p (accO d qs n)) (hdd : At w h d (dctO hs tk1 f tk2)) (hi : i ≤ qs.length) (hm : qs.length ≤ 100)
    (k : ∀ h' tk' l n', Kp [p] h h' → At w h' l (lstO ((qs.drop i).map .ref) 0) → h.get? l = none → At w h' p (accO d (qs.take i) n') → R (.ok (.ret (.ref l))) ⟨h', g, dr, tk', os⟩) :
    codeAny (model pw w) A (.call (.ref 53) ⟨[.ref p, .int i it], []⟩) R ⟨h, g, dr, tk, os⟩ :=
  popfrom hA hd (Rep.init (T := [(p, accO d qs n), (d, dctO hs tk1 f tk2)]) G (oc hp (oc hdd on)) (by
    have := ne_of_cls hp.1 hdd.1 (by kernel_rfl)
    simpa using this)) hi hm k
theorem push_spec {p d : Addr} {n : Nat} {x y : Str} {tx ty : Tok} {hs f : Int} {tk1 tk2 : Tok} {qs : List Addr}
    (hA : A.handled = none) (hd : A.depth + 1 < recursionLimit) (G : Gd w h) (hp : At w h p (accO d qs n)) (hdd : At w h d (dctO hs tk1 f tk2)) (hm : qs.length ≤ 100)
    (k : ∀ h' tk' q n', Kp [p] h h' → At w h' q (tupO x tx y ty) → h.get? q = none → At w h' p (accO d (qs ++ [q]) n') → R (.ok (.ret .none)) ⟨h', g, dr, tk', os⟩) :
    codeAny (model pw w) A (.call (.ref 45) ⟨[.ref p, .str x tx, .str y ty], []⟩) R ⟨h, g, dr, tk, os⟩ := by
  obtain ⟨Z, D⟩ : ∃ Z, Rep (KTw w) h [p, d] h [(p, accO d qs n), (d, dctO hs tk1 f tk2)] Z := ⟨_, Rep.init (T := [(p, accO d qs n), (d, dctO hs tk1 f tk2)]) G (oc hp (oc hdd on)) (by
    have := ne_of_cls hp.1 hdd.1 (by kernel_rfl)
    simpa using this)⟩
  refine start (Q := fun _ _ => True) (E := fun _ _ => True) ?_
  refine eng 15 5212579269352127485334516888764416 (by exact hA) D (by kernel_rfl) ?_
  intro χ1 h1 D1
  refine enterD 0 45 0 D1 (by kernel_rfl) (by omega) ?_
  refine eng 27 6277197516358051958349604315851600427577022381641846226944 (by exact hA) D1 (by kernel_rfl) ?_
  intro χ2 h2 D2
  refine hook (c' := .call (.builtin "list.append") ⟨[.ref p, .ref (adrAt χ2.T 0)], []⟩) (by kernel_rfl) ?_
  refine append_acc (d := d) (n := n) (xs := (qs.map Value.ref).toArray) (v := .ref (adrAt χ2.T 0)) (ac_handled hA) (D2.one 2 (by kernel_rfl)) (by simp; omega) ?_
  intro h3 tk3 K3 a3
  have aq := D2.at_ (a := adrAt χ2.T 0) (o := tupO x tx y ty) 0 (by kernel_rfl)
  have fq := D2.fresh_ (a := adrAt χ2.T 0) (o := tupO x tx y ty) 0 (by kernel_rfl)
  have nqp := D2.apart (a := adrAt χ2.T 0) (o := tupO x tx y ty) (b := p) (o' := accO d qs n) 0 2 (by kernel_rfl)
  have nqd := D2.apart (a := adrAt χ2.T 0) (o := tupO x tx y ty) (b := d) (o' := dctO hs tk1 f tk2) 0 3 (by kernel_rfl)
  refine Exists.elim ((D2.turn (j := 2) (x := (p, accO d qs n)) (by kernel_rfl) K3 a3.1).ex) ?_
  intro Z3 D3
  have eq3 : (adrAt χ2.T 0) = adrAt (TT D3) 0 := by kernel_rfl
  refine eng 1 0 (by exact hA) D3 (by kernel_rfl) ?_
  intro χ4 h4 D4
  refine fin (f := .ret .none) (by kernel_rfl) ?_
  have ap := D4.at_ (a := p) (o := accX d ((qs.map Value.ref).toArray.push (.ref (adrAt χ2.T 0))) (n + 1)) 2 (by kernel_rfl)
  have aq := D4.at_ (a := adrAt χ2.T 0) (o := tupO x tx y ty) 0 (by kernel_rfl)
  have K4 : Kp [p] h h4 := kp_two D4.keep (fun _ => D.at (j := 1) rfl) (D4.at (j := 3) (x := (d, dctO hs tk1 f tk2)) (by kernel_rfl))
  generalize adrAt χ2.T 0 = q at *
  have e1 : (qs.map Value.ref).toArray.push (.ref q) = ((qs ++ [q]).map Value.ref).toArray := by simp
  rw [e1] at ap
  exact k h4 _ q (n + 1) K4 aq (fq (by simp [nqp, nqd])) ap
end Mine
namespace Mine
open PySem PySem.W PySem.W.X PyProof.Rows
open PySem.Builtin
set_option maxHeartbeats 0
variable {w : World} {A : Around} {R : Result → Shared → Prop} {h : Heap} {g : Array GenState} {dr : Drawn} {tk : Nat} {os : OsState}
abbrev turn3 (k nu ld n : Nat) (u1 u2 u3 u4 u5 : Tok) (Tb NL l1 hn : Addr) : List (Str × Value) := turn2 k nu ld n u1 u2 u3 u4 u5 Tb NL l1 ++ ([("hand", .ref hn)] : List (Str × Value))
theorem turn_c {E : Value → Shared → Prop} {Q : Flow → Shared → Prop} {F P Tb NL l1 p d : Addr} {H : Nat → Int} {K : Nat → Tok} {k nu ld en n n1 nP : Nat} {u1 u2 u3 u4 u5 t1 t2 : Tok} {hs f : Int} {qs1 ps : List Addr}
    (hA : A.handled = none) (hd : A.depth + 40 < recursionLimit) (G : Gd w h) (aF : At w h F (frL H K (turn2 k nu ld n u1 u2 u3 u4 u5 Tb NL l1) en)) (aC : At w h (F + 1) (cellO (.ref P))) (aP : At w h P (lstO (ps.map .ref) nP)) (a1 : At w h (p + 182) (accO d qs1 n1)) (a1d : At w h d (dctO hs t1 f t2))
    (hPk : ps[k]? = some (p + 182)) (hps : ps.length ≤ 100) (hn : qs1.length ≤ 100) (hi : tI n nu ≤ qs1.length)
    (k' : ∀ h' tk' H' K' en' hn n1', Kp [F, p + 182] h h' → Gd w h' → At w h' F (frL H' K' (turn3 k nu ld n u1 u2 u3 u4 u5 Tb NL l1 hn) en') → At w h' hn (lstO ((qs1.drop (tI n nu)).map .ref) 0) → h.get? hn = none → At w h' (p + 182) (accO d (qs1.take (tI n nu)) n1') → wpAny (model pw w) A (execs ((B171 w).drop 5) (E171 w F)) Q E ⟨h', g, dr, tk', os⟩) :
    wpAny (model pw w) A (execs ((B171 w).drop 4) (E171 w F)) Q E ⟨h, g, dr, tk, os⟩ := by
  obtain ⟨Z, D⟩ : ∃ Z, Rep (KTw w) h [F, F + 1, P, p + 182, d] h [(F, frL H K (turn2 k nu ld n u1 u2 u3 u4 u5 Tb NL l1) en), (F + 1, cellO (.ref P)), (P, lstO (ps.map .ref) nP), (p + 182, accO d qs1 n1), (d, dctO hs t1 f t2)] Z := Rep.initC (T := [(F, frL H K (turn2 k nu ld n u1 u2 u3 u4 u5 Tb NL l1) en), (F + 1, cellO (.ref P)), (P, lstO (ps.map .ref) nP), (p + 182, accO d qs1 n1), (d, dctO hs t1 f t2)]) G (oc aF (oc aC (oc aP (oc a1 (oc a1d on))))) (by kernel_rfl)
  refine atCut 1 ?_
  refine top_execs (R := fun _ _ => True) ?_
  intro θ
  refine eng 9 55557249432467668992 (by exact hA) D (by kernel_rfl) ?_
  intro χ1 h1 D1
  refine hook2 (fun u v => .call (.builtin "list.__getitem__") ⟨[.ref P, .int (k : Nat) v], []⟩) (by kernel_rfl) ?_
  intro u v
  refine getitem_spec (v := .ref (p + 182)) (vs := ps.map Value.ref) (n := nP) (D1.at_ (a := P) (o := lstO (ps.map .ref) nP) 2 (by kernel_rfl)).1 (by simp [hPk]) (by simp; omega) ?_
  have D2 := D1
  refine eng 21 22300751865439789500273282771741524851950592 (by exact hA) D2 (by kernel_rfl) ?_
  intro χ3 h3 D3
  refine hook2 (fun u v => .call (.ref 53) ⟨[.ref (p + 182), .int (tI n nu : Nat) v], []⟩) (by kernel_rfl) ?_
  intro u4' v4
  refine popfrom_spec (p := p + 182) (d := d) (qs := qs1) (i := tI n nu) (n := n1) (hs := hs) (f := f) (tk1 := t1) (tk2 := t2) (ac_handled hA) (depL (b := A.depth) 0 (by kernel_rfl) hd rfl) D3.gd (D3.at_ 3 (by kernel_rfl)) (D3.at_ 4 (by kernel_rfl)) hi hn ?_
  intro h4 tk4 hn n4 K4 al fl ap
  refine Exists.elim ((D3.turnPlus (j := 3) (x := (p + 182, accO d qs1 n1)) (by kernel_rfl) K4 ap.1 al fl).ex) ?_
  intro Z4 D4
  refine eng 8 565148976676864 (by exact hA) D4 (by kernel_rfl) ?_
  intro χ5 h5 D5
  refine finQ (f := .done .next) (by kernel_rfl) ?_
  have aF' := D5.at_ (a := F) (o := frL (eHi (objAt χ5.T 1)) (eKi (objAt χ5.T 1)) (turn3 k nu ld n u1 u2 u3 u4 u5 Tb NL l1 hn) (eNd (objAt χ5.T 1))) 1 (by kernel_rfl)
  have ah := D5.at_ (a := hn) (o := lstO ((qs1.drop (tI n nu)).map .ref) 0) 0 (by kernel_rfl)
  have ap' := D5.at_ (a := p + 182) (o := accO d (qs1.take (tI n nu)) n4) 4 (by kernel_rfl)
  have K' : Kp [F, p + 182] h h5 := Rep.kpF 1 [false, true, true, false, true] D D5 (by kernel_rfl)
  exact k' h5 _ _ _ _ _ _ K' D5.gd aF' ah (D3.keep.fresh fl) ap'
end Mine
namespace Mine
open PySem PySem.W PySem.W.X PyProof.Rows
open PySem.Builtin PySem.SeqAt
set_option maxHeartbeats 0
variable {w : World} {A : Around} {R : Result → Shared → Prop} {h : Heap} {g : Array GenState} {dr : Drawn} {tk : Nat} {os : OsState}
theorem ne_same {prog : Program} {w' : World} {E : Value → Shared → Prop} {Q : Value → Shared → Prop} {s : Shared} {l b : Addr} {vs : List Addr} {n n' : Nat}
    (hl : s.heap.get? l = some (lstO (vs.map .ref) n)) (hb : s.heap.get? b = some (lstO (vs.map .ref) n')) (hu : A.units < cLine) (h : Q (.bool false) s) :
    wpAny (model prog w') A (compareOp .NotEq (.ref l) (.ref b)) Q E s := by
  refine RcNeAt.lists (items := (vs.map Value.ref).toArray) (items2 := (vs.map Value.ref).toArray) (e := fun _ => true) ⟨_, hl, rfl, n, rfl⟩ ⟨_, hb, rfl, n', rfl⟩ rfl hu (fun j h1 h2 => ?_) prog w' E Q ?_
  · simp only [List.getElem_toArray, List.getElem_map]
    exact EqAt.same _
  · have : (List.range (vs.map Value.ref).toArray.size).all (fun _ => true) = true := List.all_eq_true.mpr fun _ _ => rfl
    rw [this]; exact h
theorem atOr2 {prog : Program} {E : Value → Shared → Prop} {s : Shared} {env : Env} {x : PySem.Expr} {whole : Sem Value} {Q : Bool → Shared → Prop} (e : x = .BoolOp .Or [boE x 0, boE x 1] (boP x))
    (h : wpAny (model prog w) A (isTrue (boE x 0) env (eval (boE x 0) env)) (fun c s' => if c then Q true s' else wpAny (model prog w) A (isTrue (boE x 1) env (eval (boE x 1) env)) (fun c s' => Q c s') E s') E s) :
    wpAny (model prog w) A (isTrue x env whole) Q E s := by
  rw [e]
  refine isTrue_or (wpAny_mono h (fun c s' x => ?_) fun _ _ x => x)
  cases c
  · refine isTrue_or (wpAny_mono x (fun c s' x => ?_) fun _ _ x => x)
    cases c
    · exact isTrue_or_nil x
    · exact x
  · exact x
theorem atCmpT {prog : Program} {E : Value → Shared → Prop} {s : Shared} {env : Env} {x : PySem.Expr} {whole : Sem Value} {Q : Bool → Shared → Prop} (e : x = .Compare (cmL x) [cmO x] [cmR x] (cmP x)) (hm : behindInMarks (cmO x) (cmR x) = false)
    (h : wpAny (model prog w) A (eval (cmL x) env) (fun a s₁ => wpAny (model prog w) A (eval (cmR x) env) (fun b s₂ => wpAny (model prog w) A (compareOp (cmO x) a b) (fun c s₃ => wpAny (model prog w) A (truthy c) Q E s₃) E s₂) E s₁) E s) :
    wpAny (model prog w) A (isTrue x env whole) Q E s := by
  rw [e]
  exact wpAny_isTrue_Compare1 h hm
theorem turn_d {E : Value → Shared → Prop} {Q : Flow → Shared → Prop} {F Tb NL l1 hn : Addr} {H : Nat → Int} {K : Nat → Tok} {k nu ld en n k1 kh : Nat} {u1 u2 u3 u4 u5 : Tok} {qs1 : List Addr}
    (hA : A.handled = none) (hu : A.units + 300 < cLine) (G : Gd w h) (aF : At w h F (frL H K (turn3 k nu ld n u1 u2 u3 u4 u5 Tb NL l1 hn) en)) (a1 : At w h l1 (lstO (qs1.map .ref) k1)) (ah : At w h hn (lstO ((qs1.drop (tI n nu)).map .ref) kh)) (hne : l1 ≠ hn)
    (hq : qs1.length ≤ 100) (hi : tI n nu ≤ qs1.length)
    (k' : ∀ h' tk', Kp [] h h' → Gd w h' → wpAny (model pw w) A (execs ((B171 w).drop 6) (E171 w F)) Q E ⟨h', g, dr, tk', os⟩) :
    wpAny (model pw w) A (execs ((B171 w).drop 5) (E171 w F)) Q E ⟨h, g, dr, tk, os⟩ := by
  have nF1 := ne_of_cls aF.1 a1.1 (by kernel_rfl)
  have nFh := ne_of_cls aF.1 ah.1 (by kernel_rfl)
  obtain ⟨Z, D⟩ : ∃ Z, Rep (KTw w) h [F, l1, hn] h [(F, frL H K (turn3 k nu ld n u1 u2 u3 u4 u5 Tb NL l1 hn) en), (l1, lstO (qs1.map .ref) k1), (hn, lstO ((qs1.drop (tI n nu)).map .ref) kh)] Z := ⟨_, Rep.init (T := [(F, frL H K (turn3 k nu ld n u1 u2 u3 u4 u5 Tb NL l1 hn) en), (l1, lstO (qs1.map .ref) k1), (hn, lstO ((qs1.drop (tI n nu)).map .ref) kh)]) G (oc aF (oc a1 (oc ah on))) (by simp [nF1, nFh, hne])⟩
  refine atIf (by kernel_rfl) ?_
  refine atOr2 (by kernel_rfl) ?_
  refine atCmpT (by kernel_rfl) (by kernel_rfl) ?_
  refine top_eval (R := fun _ _ => True) ?_
  intro θ
  refine eng 2 256 (by exact hA) D (by kernel_rfl) ?_
  intro χ1 h1 D1
  refine finQ (f := .done (.ret (.ref hn))) (by kernel_rfl) ?_
  refine top_eval (R := fun _ _ => True) ?_
  intro θ
  refine eng 9 55557249428189348096 (by exact hA) D1 (by kernel_rfl) ?_
  intro χ2 h2 D2
  refine hook (c' := .call (.builtin "list.__getitem__") ⟨[.ref l1, .ref (adrAt χ2.T 0)], []⟩) (by kernel_rfl) ?_
  have K2 : Kp [] h h2 := Rep.kpF 1 [true, true, true] D D2 (by kernel_rfl)
  refine getslice_lst (n := k1) (xs := (qs1.map Value.ref).toArray) (vl := .int (tI n nu : Nat) u4) (vu := .none) (vs := .none) (ac_handled hA) (D2.two 2 0 (by kernel_rfl) (by kernel_rfl) rfl) (.int _ _) .none .none (by simp) (by simp; omega) ?_
  intro h3 tk3 q3 K3 aq fq
  rw [slicePick_from', show ((qs1.map Value.ref).toArray.toList.drop (tI n nu)) = (qs1.drop (tI n nu)).map Value.ref from by simp] at aq
  obtain ⟨Z3, D3⟩ : ∃ Z, Rep (KTw w) h [F, l1, hn] h3 _ Z := ⟨_, D2.plus (a := q3) (o := lstO ((qs1.drop (tI n nu)).map .ref) 0) K3 aq fq⟩
  refine eng 1 0 (by exact hA) D3 (by kernel_rfl) ?_
  intro χ4 h4 D4
  refine finQ (f := .done (.ret (.ref q3))) (by kernel_rfl) ?_
  have K4 : Kp [] h h4 := Rep.kpF 2 [true, true, true] D D4 (by kernel_rfl)
  refine ne_same (vs := qs1.drop (tI n nu)) (n := kh) (n' := 0) (D4.at_ 4 (by kernel_rfl)).1 (D4.at_ 0 (by kernel_rfl)).1 (by omega) ?_
  refine wpAny_truthy_bool ?_
  show wpAny _ _ (isTrue _ _ _) _ _ _
  refine atCmpT (by kernel_rfl) (by kernel_rfl) ?_
  refine top_eval (R := fun _ _ => True) ?_
  intro θ
  refine eng 6 12884901888 (by exact hA) D4 (by kernel_rfl) ?_
  intro χ5 h5 D5
  refine hook (c' := .call (.builtin "len") ⟨[.ref hn], []⟩) (by kernel_rfl) ?_
  refine lenlst_spec (vs := (qs1.drop (tI n nu)).map Value.ref) (n := kh) (ac_handled hA) D5.gd (D5.at_ 4 (by kernel_rfl)) (by simp; omega) ?_
  intro h6 tk6 v6 K6
  rw [List.length_map, List.length_drop]
  refine Exists.elim ((D5.same K6).ex) ?_
  intro Z6 D6
  refine eng 1 0 (by exact hA) D6 (by kernel_rfl) ?_
  intro χ7 h7 D7
  refine finQ (f := .done (.ret (.int ((qs1.length - tI n nu : Nat) : Int) v6))) (by kernel_rfl) ?_
  refine top_eval (R := fun _ _ => True) ?_
  intro θ
  refine eng 6 12884901888 (by exact hA) D7 (by kernel_rfl) ?_
  intro χ8 h8 D8
  refine hook (c' := .call (.builtin "len") ⟨[.ref l1], []⟩) (by kernel_rfl) ?_
  refine lenlst_spec (vs := qs1.map Value.ref) (n := k1) (ac_handled hA) D8.gd (D8.at_ 3 (by kernel_rfl)) (by simp; omega) ?_
  intro h9 tk9 v9 K9
  rw [List.length_map]
  refine Exists.elim ((D8.same K9).ex) ?_
  intro Z9 D9
  refine eng 8 196608 (by exact hA) D9 (by kernel_rfl) ?_
  intro χ10 h10 D10
  refine finInt ((qs1.length : Int) - (tI n nu : Nat)) (by kernel_rfl) (by kernel_rfl) ?_
  intro u10
  have K10 : Kp [] h h10 := Rep.kpF 2 [true, true, true] D D10 (by kernel_rfl)
  refine PyProof.Rows.ne_int ?_
  rw [show (((qs1.length - tI n nu : Nat) : Int) != (qs1.length : Int) - (tI n nu : Nat)) = false from by
    rw [show ((qs1.length - tI n nu : Nat) : Int) = (qs1.length : Int) - (tI n nu : Nat) from by omega]; simp]
  refine wpAny_truthy_bool ?_
  exact wpAny_pure (k' _ _ K10 D10.gd)
end Mine
namespace Mine
open PySem PySem.W PySem.W.X PyProof.Rows
variable {w : World} {A : Around} {R : Result → Shared → Prop} {h : Heap} {g : Array GenState} {dr : Drawn} {tk : Nat} {os : OsState}
theorem lt_spec {p q : Addr} {x y z v : Str} {tx ty tz tv : Tok}
    (hA : A.handled = none) (hd : A.depth + 1 < recursionLimit) (hu : A.units + 100 < cLine) (G : Gd w h) (hp : At w h p (tupO x tx y ty)) (hq : At w h q (tupO z tz v tv))
    (k : ∀ h' tk', Kp [] h h' → R (.ok (.ret (.bool (tCmp .Lt x y z v)))) ⟨h', g, dr, tk', os⟩) :
    codeAny (model pw w) A (.call (.ref 112) ⟨[.ref p, .ref q], []⟩) R ⟨h, g, dr, tk, os⟩ := by
  obtain ⟨Z, D⟩ : ∃ Z, Rep (KTw w) h [] h [] Z := ⟨_, Rep.init (T := []) G (by simp) (by simp)⟩
  refine start (Q := fun _ _ => True) (E := fun _ _ => True) ?_
  refine eng 11 1213648186380073308258304 (by exact hA) D (by kernel_rfl) ?_
  intro χ1 h1 D1
  refine enterB 112 0 D1 (by kernel_rfl) (by omega) ?_
  refine body ?_
  refine atRet (by kernel_rfl) ?_
  refine atCmp (by kernel_rfl) (by kernel_rfl) ?_
  refine top_eval (R := R) ?_
  intro θ
  refine eng 2 256 (by exact hA) D1 (by kernel_rfl) ?_
  intro χ2 h2 D2
  refine finQ (f := .done (.ret (.ref p))) (by kernel_rfl) ?_
  refine top_eval (R := R) ?_
  intro θ
  refine eng 2 256 (by exact hA) D2 (by kernel_rfl) ?_
  intro χ3 h3 D3
  refine finQ (f := .done (.ret (.ref q))) (by kernel_rfl) ?_
  refine rc_lt (D3.keep.2 _ _ hp.1 (by simp)) (D3.keep.2 _ _ hq.1 (by simp)) ?_ ?_
  · show A.units + 3 < cLine
    omega
  · exact k _ _ D3.keep
theorem le_spec {p q : Addr} {x y z v : Str} {tx ty tz tv : Tok}
    (hA : A.handled = none) (hd : A.depth + 1 < recursionLimit) (hu : A.units + 100 < cLine) (G : Gd w h) (hp : At w h p (tupO x tx y ty)) (hq : At w h q (tupO z tz v tv))
    (k : ∀ h' tk', Kp [] h h' → R (.ok (.ret (.bool (tCmp .LtE x y z v)))) ⟨h', g, dr, tk', os⟩) :
    codeAny (model pw w) A (.call (.ref 119) ⟨[.ref p, .ref q], []⟩) R ⟨h, g, dr, tk, os⟩ := by
  obtain ⟨Z, D⟩ : ∃ Z, Rep (KTw w) h [] h [] Z := ⟨_, Rep.init (T := []) G (by simp) (by simp)⟩
  refine start (Q := fun _ _ => True) (E := fun _ _ => True) ?_
  refine eng 11 1213648186380073308258304 (by exact hA) D (by kernel_rfl) ?_
  intro χ1 h1 D1
  refine enterB 119 0 D1 (by kernel_rfl) (by omega) ?_
  refine body ?_
  refine atRet (by kernel_rfl) ?_
  refine atCmp (by kernel_rfl) (by kernel_rfl) ?_
  refine top_eval (R := R) ?_
  intro θ
  refine eng 2 256 (by exact hA) D1 (by kernel_rfl) ?_
  intro χ2 h2 D2
  refine finQ (f := .done (.ret (.ref p))) (by kernel_rfl) ?_
  refine top_eval (R := R) ?_
  intro θ
  refine eng 2 256 (by exact hA) D2 (by kernel_rfl) ?_
  intro χ3 h3 D3
  refine finQ (f := .done (.ret (.ref q))) (by kernel_rfl) ?_
  refine rc_le (D3.keep.2 _ _ hp.1 (by simp)) (D3.keep.2 _ _ hq.1 (by simp)) ?_ ?_
  · show A.units + 3 < cLine
    omega
  · exact k _ _ D3.keep
theorem eq_spec {p q : Addr} {x y z v : Str} {tx ty tz tv : Tok}
    (hA : A.handled = none) (hd : A.depth + 1 < recursionLimit) (hu : A.units + 100 < cLine) (G : Gd w h) (hp : At w h p (tupO x tx y ty)) (hq : At w h q (tupO z tz v tv))
    (k : ∀ h' tk', Kp [] h h' → R (.ok (.ret (.bool (tCmp .Eq x y z v)))) ⟨h', g, dr, tk', os⟩) :
    codeAny (model pw w) A (.call (.ref 126) ⟨[.ref p, .ref q], []⟩) R ⟨h, g, dr, tk, os⟩ := by
  obtain ⟨Z, D⟩ : ∃ Z, Rep (KTw w) h [] h [] Z := ⟨_, Rep.init (T := []) G (by simp) (by simp)⟩
  refine start (Q := fun _ _ => True) (E := fun _ _ => True) ?_
  refine eng 11 1213648186380073308258304 (by exact hA) D (by kernel_rfl) ?_
  intro χ1 h1 D1
  refine enterB 126 0 D1 (by kernel_rfl) (by omega) ?_
  refine body ?_
  refine atRet (by kernel_rfl) ?_
  refine atCmp (by kernel_rfl) (by kernel_rfl) ?_
  refine top_eval (R := R) ?_
  intro θ
  refine eng 2 256 (by exact hA) D1 (by kernel_rfl) ?_
  intro χ2 h2 D2
  refine finQ (f := .done (.ret (.ref p))) (by kernel_rfl) ?_
  refine top_eval (R := R) ?_
  intro θ
  refine eng 2 256 (by exact hA) D2 (by kernel_rfl) ?_
  intro χ3 h3 D3
  refine finQ (f := .done (.ret (.ref q))) (by kernel_rfl) ?_
  refine rc_eq (D3.keep.2 _ _ hp.1 (by simp)) (D3.keep.2 _ _ hq.1 (by simp)) ?_ ?_
  · show A.units + 3 < cLine
    omega
  · exact k _ _ D3.keep
theorem ne_spec {p q : Addr} {x y z v : Str} {tx ty tz tv : Tok}
    (hA : A.handled = none) (hd : A.depth + 1 < recursionLimit) (hu : A.units + 100 < cLine) (G : Gd w h) (hp : At w h p (tupO x tx y ty)) (hq : At w h q (tupO z tz v tv))
    (k : ∀ h' tk', Kp [] h h' → R (.ok (.ret (.bool (tCmp .NotEq x y z v)))) ⟨h', g, dr, tk', os⟩) :
    codeAny (model pw w) A (.call (.ref 133) ⟨[.ref p, .ref q], []⟩) R ⟨h, g, dr, tk, os⟩ := by
  obtain ⟨Z, D⟩ : ∃ Z, Rep (KTw w) h [] h [] Z := ⟨_, Rep.init (T := []) G (by simp) (by simp)⟩
  refine start (Q := fun _ _ => True) (E := fun _ _ => True) ?_
  refine eng 11 1213648186380073308258304 (by exact hA) D (by kernel_rfl) ?_
  intro χ1 h1 D1
  refine enterB 133 0 D1 (by kernel_rfl) (by omega) ?_
  refine body ?_
  refine atRet (by kernel_rfl) ?_
  refine atCmp (by kernel_rfl) (by kernel_rfl) ?_
  refine top_eval (R := R) ?_
  intro θ
  refine eng 2 256 (by exact hA) D1 (by kernel_rfl) ?_
  intro χ2 h2 D2
  refine finQ (f := .done (.ret (.ref p))) (by kernel_rfl) ?_
  refine top_eval (R := R) ?_
  intro θ
  refine eng 2 256 (by exact hA) D2 (by kernel_rfl) ?_
  intro χ3 h3 D3
  refine finQ (f := .done (.ret (.ref q))) (by kernel_rfl) ?_
  refine rc_ne (D3.keep.2 _ _ hp.1 (by simp)) (D3.keep.2 _ _ hq.1 (by simp)) ?_ ?_
  · show A.units + 3 < cLine
    omega
  · exact k _ _ D3.keep
theorem ge_spec {p q : Addr} {x y z v : Str} {tx ty tz tv : Tok}
    (hA : A.handled = none) (hd : A.depth + 1 < recursionLimit) (hu : A.units + 100 < cLine) (G : Gd w h) (hp : At w h p (tupO x tx y ty)) (hq : At w h q (tupO z tz v tv))
    (k : ∀ h' tk', Kp [] h h' → R (.ok (.ret (.bool (tCmp .GtE x y z v)))) ⟨h', g, dr, tk', os⟩) :
    codeAny (model pw w) A (.call (.ref 140) ⟨[.ref p, .ref q], []⟩) R ⟨h, g, dr, tk, os⟩ := by
  obtain ⟨Z, D⟩ : ∃ Z, Rep (KTw w) h [] h [] Z := ⟨_, Rep.init (T := []) G (by simp) (by simp)⟩
  refine start (Q := fun _ _ => True) (E := fun _ _ => True) ?_
  refine eng 11 1213648186380073308258304 (by exact hA) D (by kernel_rfl) ?_
  intro χ1 h1 D1
  refine enterB 140 0 D1 (by kernel_rfl) (by omega) ?_
  refine body ?_
  refine atRet (by kernel_rfl) ?_
  refine atCmp (by kernel_rfl) (by kernel_rfl) ?_
  refine top_eval (R := R) ?_
  intro θ
  refine eng 2 256 (by exact hA) D1 (by kernel_rfl) ?_
  intro χ2 h2 D2
  refine finQ (f := .done (.ret (.ref p))) (by kernel_rfl) ?_
  refine top_eval (R := R) ?_
  intro θ
  refine eng 2 256 (by exact hA) D2 (by kernel_rfl) ?_
  intro χ3 h3 D3
  refine finQ (f := .done (.ret (.ref q))) (by kernel_rfl) ?_
  refine rc_ge (D3.keep.2 _ _ hp.1 (by simp)) (D3.keep.2 _ _ hq.1 (by simp)) ?_ ?_
  · show A.units + 3 < cLine
    omega
  · exact k _ _ D3.keep
theorem gt_spec {p q : Addr} {x y z v : Str} {tx ty tz tv : Tok}
    (hA : A.handled = none) (hd : A.depth + 1 < recursionLimit) (hu : A.units + 100 < cLine) (G : Gd w h) (hp : At w h p (tupO x tx y ty)) (hq : At w h q (tupO z tz v tv))
    (k : ∀ h' tk', Kp [] h h' → R (.ok (.ret (.bool (tCmp .Gt x y z v)))) ⟨h', g, dr, tk', os⟩) :
    codeAny (model pw w) A (.call (.ref 147) ⟨[.ref p, .ref q], []⟩) R ⟨h, g, dr, tk, os⟩ := by
  obtain ⟨Z, D⟩ : ∃ Z, Rep (KTw w) h [] h [] Z := ⟨_, Rep.init (T := []) G (by simp) (by simp)⟩
  refine start (Q := fun _ _ => True) (E := fun _ _ => True) ?_
  refine eng 11 1213648186380073308258304 (by exact hA) D (by kernel_rfl) ?_
  intro χ1 h1 D1
  refine enterB 147 0 D1 (by kernel_rfl) (by omega) ?_
  refine body ?_
  refine atRet (by kernel_rfl) ?_
  refine atCmp (by kernel_rfl) (by kernel_rfl) ?_
  refine top_eval (R := R) ?_
  intro θ
  refine eng 2 256 (by exact hA) D1 (by kernel_rfl) ?_
  intro χ2 h2 D2
  refine finQ (f := .done (.ret (.ref p))) (by kernel_rfl) ?_
  refine top_eval (R := R) ?_
  intro θ
  refine eng 2 256 (by exact hA) D2 (by kernel_rfl) ?_
  intro χ3 h3 D3
  refine finQ (f := .done (.ret (.ref q))) (by kernel_rfl) ?_
  refine rc_gt (D3.keep.2 _ _ hp.1 (by simp)) (D3.keep.2 _ _ hq.1 (by simp)) ?_ ?_
  · show A.units + 3 < cLine
    omega
  · exact k _ _ D3.keep
end Mine
namespace Mine
open PySem PySem.W PySem.W.X PyProof.Rows
open PySem.Builtin PySem.SeqAt
set_option maxHeartbeats 0
variable {w : World} {A : Around} {R : Result → Shared → Prop} {h : Heap} {g : Array GenState} {dr : Drawn} {tk : Nat} {os : OsState}
theorem getitem_specI {prog : Program} {l : Addr} {vs : List Value} {n : Nat} {i : Int} {t : Tok} {v : Value} (m : Nat) (hi : i = (m : Nat)) (hl : h.get? l = some (lstX vs.toArray n)) (hm : vs[m]? = some v) (hs : vs.length ≤ 1000)
    (k : R (.ok (.ret v)) ⟨h, g, dr, tk, os⟩) :
    codeAny (model prog w) A (.call (.builtin "list.__getitem__") ⟨[.ref l, .int i t], []⟩) R ⟨h, g, dr, tk, os⟩ := by
  subst hi
  exact getitem_spec hl hm hs k
theorem get_map {qs : List Addr} {m : Nat} {q : Addr} (h : qs[m]? = some q) : (qs.map Value.ref)[m]? = some (.ref q) := by simp [h]
abbrev turn4 (k nu ld n : Nat) (u1 u2 u3 u4 u5 : Tok) (Tb NL l1 hn qa qb sd : Addr) : List (Str × Value) := turn3 k nu ld n u1 u2 u3 u4 u5 Tb NL l1 hn ++ ([("one", .ref qa), ("other", .ref qb), ("said", .ref sd)] : List (Str × Value))
def saidL (ca cb : Str × Str) : List Value := [.bool (tCmp .Lt ca.1 ca.2 cb.1 cb.2), .bool (tCmp .LtE ca.1 ca.2 cb.1 cb.2), .bool (tCmp .Gt ca.1 ca.2 cb.1 cb.2), .bool (tCmp .GtE ca.1 ca.2 cb.1 cb.2), .bool (tCmp .Eq ca.1 ca.2 cb.1 cb.2), .bool (tCmp .NotEq ca.1 ca.2 cb.1 cb.2)]
theorem nin2' {α : Type} {x a b : α} (h1 : x ≠ a) (h2 : x ≠ b) : x ∉ [a, b] := by simp [h1, h2]
theorem turn_e {E : Value → Shared → Prop} {Q : Flow → Shared → Prop} {F Tb NL l1 hn qa qb : Addr} {H : Nat → Int} {K : Nat → Tok} {k nu ld en n kh : Nat} {u1 u2 u3 u4 u5 : Tok} {hs : List Addr} {ca cb : Str × Str}
    (hA : A.handled = none) (hd : A.depth + 40 < recursionLimit) (hu : A.units + 300 < cLine) (G : Gd w h) (aF : At w h F (frL H K (turn3 k nu ld n u1 u2 u3 u4 u5 Tb NL l1 hn) en)) (ah : At w h hn (lstO (hs.map .ref) kh))
    (ea : hs[0]? = some qa) (eb : hs[tJ n nu - tI n nu]? = some qb) (hij : tI n nu ≤ tJ n nu) (ta : Tup w h qa ca) (tb : Tup w h qb cb) (hq : hs.length ≤ 100)
    (k' : ∀ h' tk' H' K' en' sd, Kp [F] h h' → Gd w h' → At w h' F (frL H' K' (turn4 k nu ld n u1 u2 u3 u4 u5 Tb NL l1 hn qa qb sd) en') → At w h' sd (lstX (saidL ca cb).toArray 0) → h.get? sd = none → wpAny (model pw w) A (execs ((B171 w).drop 9) (E171 w F)) Q E ⟨h', g, dr, tk', os⟩) :
    wpAny (model pw w) A (execs ((B171 w).drop 6) (E171 w F)) Q E ⟨h, g, dr, tk, os⟩ := by
  obtain ⟨s1, s2, ta⟩ := ta
  obtain ⟨s3, s4, tb⟩ := tb
  obtain ⟨Z, D⟩ : ∃ Z, Rep (KTw w) h [F, hn] h [(F, frL H K (turn3 k nu ld n u1 u2 u3 u4 u5 Tb NL l1 hn) en), (hn, lstO (hs.map .ref) kh)] Z := Rep.initC (T := [(F, frL H K (turn3 k nu ld n u1 u2 u3 u4 u5 Tb NL l1 hn) en), (hn, lstO (hs.map .ref) kh)]) G (oc aF (oc ah on)) (by kernel_rfl)
  have nFa := ne_of_cls ta.1 aF.1 (by kernel_rfl)
  have nFb := ne_of_cls tb.1 aF.1 (by kernel_rfl)
  have mA : qa ∉ [F] := by simp [nFa]
  have mB : qb ∉ [F] := by simp [nFb]
  have kd : A.depth + 1 < recursionLimit := by omega
  have ku : A.units + 100 < cLine := by omega
  refine atCut 3 ?_
  refine top_execs (R := fun _ _ => True) ?_
  intro θ
  refine eng 20 5731291517356790440018130296602966467941498880 (by exact hA) D (by kernel_rfl) ?_
  intro χ1 h1 D1
  refine enterD 0 161 0 D1 (by kernel_rfl) (by omega) ?_
  refine eng 10 14222655854711706484736 (by exact hA) D1 (by kernel_rfl) ?_
  intro χ2 h2 D2
  refine hook2 (fun u v => .call (.builtin "list.__getitem__") ⟨[.ref hn, .int 0 v], []⟩) (by kernel_rfl) ?_
  intro x1 y1
  refine getitem_specI (v := .ref qa) (vs := hs.map Value.ref) (n := kh) 0 rfl (D2.at_ (a := hn) (o := lstO (hs.map .ref) kh) 2 (by kernel_rfl)).1 (get_map ea) (by simp; omega) ?_
  refine eng 37 499265905418256773312201171865588668175976652803948907865033394127932208638401041137664 (by exact hA) D2 (by kernel_rfl) ?_
  intro χ3 h3 D3
  refine enterD 0 161 0 D3 (by kernel_rfl) (by omega) ?_
  refine eng 10 18963541139249099177984 (by exact hA) D3 (by kernel_rfl) ?_
  intro χ4 h4 D4
  refine hook2 (fun u v => .call (.builtin "list.__getitem__") ⟨[.ref hn, .int ((tJ n nu : Nat) - (tI n nu : Nat)) v], []⟩) (by kernel_rfl) ?_
  intro x2 y2
  refine getitem_specI (v := .ref qb) (vs := hs.map Value.ref) (n := kh) (tJ n nu - tI n nu) (by omega) (D4.at_ (a := hn) (o := lstO (hs.map .ref) kh) 3 (by kernel_rfl)).1 (get_map eb) (by simp; omega) ?_
  refine eng 19 1020862677653390994873226430991336210432 (by exact hA) D4 (by kernel_rfl) ?_
  intro χ5 h5 D5
  refine hook (c' := .call (.ref 112) ⟨[.ref qa, .ref qb], []⟩) (by kernel_rfl) ?_
  have K5 : Kp [F] h h5 := Rep.kpF 2 [false, true] D D5 (by kernel_rfl)
  refine lt_spec (ac_handled hA) (depL (b := A.depth) 0 (by kernel_rfl) hd rfl) (depL (b := A.units) 0 (by kernel_rfl) hu rfl) D5.gd (ta.kp K5 mA) (tb.kp K5 mB) ?_
  intro h6 tk6 K6
  refine Exists.elim (D5.same K6).ex ?_
  intro Z6 D6
  refine eng 9 844437815033856 (by exact hA) D6 (by kernel_rfl) ?_
  intro χ7 h7 D7
  refine hook (c' := .call (.ref 119) ⟨[.ref qa, .ref qb], []⟩) (by kernel_rfl) ?_
  have K7 : Kp [F] h h7 := Rep.kpF 2 [false, true] D D7 (by kernel_rfl)
  refine le_spec (ac_handled hA) (depL (b := A.depth) 0 (by kernel_rfl) hd rfl) (depL (b := A.units) 0 (by kernel_rfl) hu rfl) D7.gd (ta.kp K7 mA) (tb.kp K7 mB) ?_
  intro h8 tk8 K8
  refine Exists.elim (D7.same K8).ex ?_
  intro Z8 D8
  refine eng 9 844437815033856 (by exact hA) D8 (by kernel_rfl) ?_
  intro χ9 h9 D9
  refine hook (c' := .call (.ref 147) ⟨[.ref qa, .ref qb], []⟩) (by kernel_rfl) ?_
  have K9 : Kp [F] h h9 := Rep.kpF 2 [false, true] D D9 (by kernel_rfl)
  refine gt_spec (ac_handled hA) (depL (b := A.depth) 0 (by kernel_rfl) hd rfl) (depL (b := A.units) 0 (by kernel_rfl) hu rfl) D9.gd (ta.kp K9 mA) (tb.kp K9 mB) ?_
  intro h10 tk10 K10
  refine Exists.elim (D9.same K10).ex ?_
  intro Z10 D10
  refine eng 9 844437815033856 (by exact hA) D10 (by kernel_rfl) ?_
  intro χ11 h11 D11
  refine hook (c' := .call (.ref 140) ⟨[.ref qa, .ref qb], []⟩) (by kernel_rfl) ?_
  have K11 : Kp [F] h h11 := Rep.kpF 2 [false, true] D D11 (by kernel_rfl)
  refine ge_spec (ac_handled hA) (depL (b := A.depth) 0 (by kernel_rfl) hd rfl) (depL (b := A.units) 0 (by kernel_rfl) hu rfl) D11.gd (ta.kp K11 mA) (tb.kp K11 mB) ?_
  intro h12 tk12 K12
  refine Exists.elim (D11.same K12).ex ?_
  intro Z12 D12
  refine eng 9 844437815033856 (by exact hA) D12 (by kernel_rfl) ?_
  intro χ13 h13 D13
  refine hook (c' := .call (.ref 126) ⟨[.ref qa, .ref qb], []⟩) (by kernel_rfl) ?_
  have K13 : Kp [F] h h13 := Rep.kpF 2 [false, true] D D13 (by kernel_rfl)
  refine eq_spec (ac_handled hA) (depL (b := A.depth) 0 (by kernel_rfl) hd rfl) (depL (b := A.units) 0 (by kernel_rfl) hu rfl) D13.gd (ta.kp K13 mA) (tb.kp K13 mB) ?_
  intro h14 tk14 K14
  refine Exists.elim (D13.same K14).ex ?_
  intro Z14 D14
  refine eng 9 844437815033856 (by exact hA) D14 (by kernel_rfl) ?_
  intro χ15 h15 D15
  refine hook (c' := .call (.ref 133) ⟨[.ref qa, .ref qb], []⟩) (by kernel_rfl) ?_
  have K15 : Kp [F] h h15 := Rep.kpF 2 [false, true] D D15 (by kernel_rfl)
  refine ne_spec (ac_handled hA) (depL (b := A.depth) 0 (by kernel_rfl) hd rfl) (depL (b := A.units) 0 (by kernel_rfl) hu rfl) D15.gd (ta.kp K15 mA) (tb.kp K15 mB) ?_
  intro h16 tk16 K16
  refine Exists.elim (D15.same K16).ex ?_
  intro Z16 D16
  refine eng 9 289356276058554368 (by exact hA) D16 (by kernel_rfl) ?_
  intro χ17 h17 D17
  refine finQ (f := .done .next) (by kernel_rfl) ?_
  have aF' := D17.at_ (a := F) (o := frL (eHi (objAt χ17.T 3)) (eKi (objAt χ17.T 3)) (turn4 k nu ld n u1 u2 u3 u4 u5 Tb NL l1 hn qa qb (adrAt χ17.T 0)) (eNd (objAt χ17.T 3))) 3 (by kernel_rfl)
  have as' := D17.at_ (a := adrAt χ17.T 0) (o := lstX (saidL ca cb).toArray 0) 0 (by kernel_rfl)
  have fs := D17.fresh_ (a := adrAt χ17.T 0) (o := lstX (saidL ca cb).toArray 0) 0 (by kernel_rfl) (nin2' (D17.apart (a := adrAt χ17.T 0) (o := lstX (saidL ca cb).toArray 0) (b := F) (o' := objAt χ17.T 3) 0 3 (by kernel_rfl)) (D17.apart (a := adrAt χ17.T 0) (o := lstX (saidL ca cb).toArray 0) (b := hn) (o' := lstO (hs.map .ref) kh) 0 4 (by kernel_rfl)))
  have K' : Kp [F] h h17 := Rep.kpF 3 [false, true] D D17 (by kernel_rfl)
  exact k' h17 _ _ _ _ _ K' D17.gd aF' as' fs
def pcs : List (Str × Str) := [(Str.ofString "", Str.ofString ""), (Str.ofString "", Str.ofString " "), (Str.ofString "", Str.ofString "a"), (Str.ofString "", Str.ofString "ab"), (Str.ofString "", Str.ofString "b"), (Str.ofString "\t", Str.ofString ""), (Str.ofString " ", Str.ofString ""), (Str.ofString " ", Str.ofString "a")]
def pc (r : Nat) : Str × Str := pcs.getD r (Str.ofString "", Str.ofString "")
def tC (op : CmpOp) (a b : Str × Str) : Bool := tCmp op a.1 a.2 b.1 b.2
theorem pc_lt : ∀ a < 8, ∀ b < 8, tC .Lt (pc a) (pc b) = decide (a < b) := by decide +kernel
theorem pc_le : ∀ a < 8, ∀ b < 8, tC .LtE (pc a) (pc b) = decide (a ≤ b) := by decide +kernel
theorem pc_gt : ∀ a < 8, ∀ b < 8, tC .Gt (pc a) (pc b) = decide (b < a) := by decide +kernel
theorem pc_ge : ∀ a < 8, ∀ b < 8, tC .GtE (pc a) (pc b) = decide (b ≤ a) := by decide +kernel
theorem pc_eq : ∀ a < 8, ∀ b < 8, tC .Eq (pc a) (pc b) = decide (a = b) := by decide +kernel
theorem pc_ne : ∀ a < 8, ∀ b < 8, tC .NotEq (pc a) (pc b) = decide (a ≠ b) := by decide +kernel
def pieceAt (h : Heap) (a : Addr) : Option (Str × Str) := match h.get? a with
  | some o => match o.data with
    | .seq xs _ => match xs[0]?, xs[1]? with
      | some (Value.str x _), some (Value.str y _) => some (x, y)
      | _, _ => none
    | _ => none
  | none => none
theorem Tup.piece {a : Addr} {c : Str × Str} (x : Tup w h a c) : pieceAt h a = some c := by
  obtain ⟨t1, t2, x⟩ := x
  unfold pieceAt
  rw [x.1]
  rfl
theorem Tup.eqAt {s : Shared} {a b : Addr} {c e : Str × Str} (ha : Tup w s.heap a c) (hb : Tup w s.heap b e) (hu : A.units < cLine) : EqAt A s (.ref a) (.ref b) (tC .Eq c e) := by
  by_cases n : a = b
  · subst n
    have h1 := ha.piece
    rw [hb.piece] at h1
    cases h1
    have : tC .Eq c c = true := by simp [tC, tCmp, eCmp]
    rw [this]
    exact EqAt.same _
  · obtain ⟨t1, t2, x⟩ := ha
    obtain ⟨t3, t4, y⟩ := hb
    refine EqAt.of_refs n fun prog w' E Q hq => ?_
    exact rc_eq (prog := prog) (w := w') (x := c.1) (y := c.2) (z := e.1) (v := e.2) x.1 y.1 hu hq
theorem index_spec {prog : Program} {l q : Addr} {tqs : List Addr} {n r : Nat} (hl : h.get? l = some (lstO (tqs.map .ref) n)) (ht : Row w h tqs pcs) (hq : Tup w h q (pc r)) (hr : r < 8) (hu : A.units + 1 < cLine)
    (k : ∀ tk' u, R (.ok (.ret (.int (r : Nat) u))) ⟨h, g, dr, tk', os⟩) :
    codeAny (model prog w) A (.call (.builtin "list.index") ⟨[.ref l, .ref q], []⟩) R ⟨h, g, dr, tk, os⟩ := by
  have hlen : tqs.length = 8 := ht.length
  have get : ∀ m (hm : m < tqs.length), Tup w h tqs[m] (pc m) := fun m hm => by
    obtain ⟨c, hc, x⟩ := ht.get (i := m) (List.getElem?_eq_getElem hm)
    have : pc m = c := by unfold pc; rw [List.getD_eq_getElem?_getD, hc]; rfl
    rw [this]; exact x
  let e : Value → Bool := fun v => match v with
    | .ref a => match pieceAt h a with
      | some c => tC .Eq c (pc r)
      | none => false
    | _ => false
  have he : ∀ m (hm : m < tqs.length), e (.ref tqs[m]) = decide (m = r) := fun m hm => by
    show (match pieceAt h tqs[m] with | some c => tC .Eq c (pc r) | none => false) = _
    rw [(get m hm).piece]
    exact pc_eq m (by omega) r hr
  refine hk_meets F.slot_list_index ⟨_, hl, rfl⟩ F.entry_list_index (F.args_list_index_2 _ _) (list_indexAt l (tqs.map Value.ref).toArray n none #[] (.ref q) e r (by simp; omega) (by omega) ?_ ?_) ⟨hl, ?_, k _ _⟩
  · simp only [List.getElem_toArray, List.getElem_map]
    rw [he]; simp
  · intro m hm hlt
    simp only [List.getElem_toArray, List.getElem_map]
    rw [he]; simp; omega
  · intro y hy
    simp only [List.mem_toArray, List.mem_map] at hy
    obtain ⟨a, ha, rfl⟩ := hy
    obtain ⟨m, hm, rfl⟩ := List.getElem_of_mem ha
    have : e (.ref tqs[m]) = tC .Eq (pc m) (pc r) := by
      show (match pieceAt h tqs[m] with | some c => tC .Eq c (pc r) | none => false) = _
      rw [(get m hm).piece]
    rw [this]
    exact (get m hm).eqAt hq (by show A.units + 1 < _; omega)
theorem tupKp {h h' : Heap} {ks : List Addr} {a : Addr} {c : Str × Str} (x : Tup w h a c) (K : Kp ks h h') (hn : a ∉ ks) : Tup w h' a c := by
  obtain ⟨t, u, x⟩ := x
  exact ⟨t, u, x.kp K hn⟩
abbrev turn5 (k nu ld n : Nat) (u1 u2 u3 u4 u5 u6 u7 : Tok) (Tb NL l1 hn qa qb sd : Addr) (ra rb : Nat) : List (Str × Value) := turn4 k nu ld n u1 u2 u3 u4 u5 Tb NL l1 hn qa qb sd ++ ([("b", .int (rb : Nat) u6), ("a", .int (ra : Nat) u7)] : List (Str × Value))
theorem turn_f {E : Value → Shared → Prop} {Q : Flow → Shared → Prop} {F Tb NL l1 hn qa qb sd : Addr} {H : Nat → Int} {K : Nat → Tok} {k nu ld en n k1 nT ra rb : Nat} {u1 u2 u3 u4 u5 : Tok} {qs1 tqs : List Addr}
    (hA : A.handled = none) (hu : A.units + 300 < cLine) (G : Gd w h) (aF : At w h F (frL H K (turn4 k nu ld n u1 u2 u3 u4 u5 Tb NL l1 hn qa qb sd) en)) (a1 : At w h l1 (lstO (qs1.map .ref) k1)) (aT : At w h Tb (lstO (tqs.map .ref) nT)) (rT : Row w h tqs pcs)
    (ea : qs1[tI n nu]? = some qa) (eb : qs1[tJ n nu]? = some qb) (ta : Tup w h qa (pc ra)) (tb : Tup w h qb (pc rb)) (ha : ra < 8) (hb : rb < 8) (hq : qs1.length ≤ 100) (hne : l1 ≠ Tb)
    (k' : ∀ h' tk' H' K' en' u6 u7, Kp [F] h h' → Gd w h' → At w h' F (frL H' K' (turn5 k nu ld n u1 u2 u3 u4 u5 u6 u7 Tb NL l1 hn qa qb sd ra rb) en') → wpAny (model pw w) A (execs ((B171 w).drop 10) (E171 w F)) Q E ⟨h', g, dr, tk', os⟩) :
    wpAny (model pw w) A (execs ((B171 w).drop 9) (E171 w F)) Q E ⟨h, g, dr, tk, os⟩ := by
  have nF1 := ne_of_cls aF.1 a1.1 (by kernel_rfl)
  have nFT := ne_of_cls aF.1 aT.1 (by kernel_rfl)
  obtain ⟨Z, D⟩ : ∃ Z, Rep (KTw w) h [F, l1, Tb] h [(F, frL H K (turn4 k nu ld n u1 u2 u3 u4 u5 Tb NL l1 hn qa qb sd) en), (l1, lstO (qs1.map .ref) k1), (Tb, lstO (tqs.map .ref) nT)] Z := ⟨_, Rep.init (T := [(F, frL H K (turn4 k nu ld n u1 u2 u3 u4 u5 Tb NL l1 hn qa qb sd) en), (l1, lstO (qs1.map .ref) k1), (Tb, lstO (tqs.map .ref) nT)]) G (oc aF (oc a1 (oc aT on))) (by simp [nF1, nFT, hne])⟩
  have mT : Tb ∉ [F] := nin1 (Ne.symm (ne_of_cls aF.1 aT.1 (by kernel_rfl)))
  have mA : qa ∉ [F] := by
    obtain ⟨s1, s2, x⟩ := ta
    exact nin1 (ne_of_cls x.1 aF.1 (by kernel_rfl))
  have mB : qb ∉ [F] := by
    obtain ⟨s1, s2, x⟩ := tb
    exact nin1 (ne_of_cls x.1 aF.1 (by kernel_rfl))
  have ku : A.units + 100 < cLine := by omega
  refine atCut 1 ?_
  refine top_execs (R := fun _ _ => True) ?_
  intro θ
  refine eng 18 174907795073636659140637404855792121675776 (by exact hA) D (by kernel_rfl) ?_
  intro χ1 h1 D1
  refine hook2 (fun u v => .call (.builtin "list.__getitem__") ⟨[.ref l1, .int (tI n nu : Nat) v], []⟩) (by kernel_rfl) ?_
  intro x1 y1
  refine getitem_spec (v := .ref qa) (vs := qs1.map Value.ref) (n := k1) (D1.at_ (a := l1) (o := lstO (qs1.map .ref) k1) 1 (by kernel_rfl)).1 (get_map ea) (by simp; omega) ?_
  refine eng 1 0 (by exact hA) D1 (by kernel_rfl) ?_
  intro χ2 h2 D2
  refine hook (c' := .call (.builtin "list.index") ⟨[.ref Tb, .ref qa], []⟩) (by kernel_rfl) ?_
  have K2 : Kp [] h h2 := Rep.kpF 0 [true, true, true] D D2 (by kernel_rfl)
  refine index_spec (n := nT) (D2.at_ (a := Tb) (o := lstO (tqs.map .ref) nT) 2 (by kernel_rfl)).1 (rT.kp0 K2) (tupKp ta K2 (nin0 _)) ha (depL (b := A.units) 0 (by kernel_rfl) hu rfl) ?_
  intro tk3 v3
  refine eng 17 683233574506393199768114862717937975296 (by exact hA) D2 (by kernel_rfl) ?_
  intro χ4 h4 D4
  refine hook2 (fun u v => .call (.builtin "list.__getitem__") ⟨[.ref l1, .int (tJ n nu : Nat) v], []⟩) (by kernel_rfl) ?_
  intro x2 y2
  refine getitem_spec (v := .ref qb) (vs := qs1.map Value.ref) (n := k1) (D4.at_ (a := l1) (o := lstO (qs1.map .ref) k1) 1 (by kernel_rfl)).1 (get_map eb) (by simp; omega) ?_
  refine eng 1 0 (by exact hA) D4 (by kernel_rfl) ?_
  intro χ5 h5 D5
  refine hook (c' := .call (.builtin "list.index") ⟨[.ref Tb, .ref qb], []⟩) (by kernel_rfl) ?_
  have K5 : Kp [] h h5 := Rep.kpF 0 [true, true, true] D D5 (by kernel_rfl)
  refine index_spec (n := nT) (D5.at_ (a := Tb) (o := lstO (tqs.map .ref) nT) 2 (by kernel_rfl)).1 (rT.kp0 K5) (tupKp tb K5 (nin0 _)) hb (depL (b := A.units) 0 (by kernel_rfl) hu rfl) ?_
  intro tk6 v6
  refine eng 6 1103823372288 (by exact hA) D5 (by kernel_rfl) ?_
  intro χ7 h7 D7
  refine eng2 "special-get-raises" 1 0 1 0 (by exact hA) D7 (by kernel_rfl) ?_
  intro χ8 h8 D8
  refine eng 53 3318191093341689326290742327127426974055934136582073858523337247446746437305133018481713425102058155947179467155822656618752 (by exact hA) D8 (by kernel_rfl) ?_
  intro χ9 h9 D9
  refine finQ (f := .done .next) (by kernel_rfl) ?_
  have aF' := D9.at_ (a := F) (o := frL (eHi (objAt χ9.T 4)) (eKi (objAt χ9.T 4)) (turn5 k nu ld n u1 u2 u3 u4 u5 (eTi (objAt χ9.T 4) 12) (eTi (objAt χ9.T 4) 13) Tb NL l1 hn qa qb sd ra rb) (eNd (objAt χ9.T 4))) 4 (by kernel_rfl)
  have K' : Kp [F] h h9 := Rep.kpF 4 [false, true, true] D D9 (by kernel_rfl)
  exact k' h9 _ _ _ _ _ _ K' D9.gd aF'
abbrev nAns : Str := Str.ofString "answer"
abbrev ibS : Scope := ⟨.function, [(nDot, .local), (nAns, .local), (Str.ofString "isinstance", .globalImplicit), (Str.ofString "bool", .globalImplicit)], false, false, []⟩
abbrev ibE (p1 p2 p3 p4 p5 p6 : Pos) (iter : PySem.Expr) : PySem.Expr := .ListComp (.Call (.Name "isinstance" p1) [.Name nAns p2, .Name "bool" p3] [] p4) [⟨.Name nAns p5, iter, [], 0⟩] ibS p6
theorem comp_isb_loop {L acc it src : Addr} {ns : Nat} {so : Obj} {bs : List Bool}
   {iter : PySem.Expr} {p1 p2 p3 p4 p5 p6 : Pos} {cl : List (Str × Addr)} {q : Str} {f : Option Addr} {co : Value} {fr : Option Addr}
    (hA : A.handled = none) (hsd : so.data = .seq (bs.map Value.bool).toArray ns) (hsz : bs.length ≤ 500) :
    ∀ (rest : List Bool) (i : Nat) (h : Heap) (tk : Nat) (na en : Nat) (ys : Array Value) (es : Array DictEntry) (ti : Tok), bs.drop i = rest → ys.size ≤ i → OneOf nAns es →
    Gd w h → At w h L (nsO es en) → At w h acc (lstX ys na) → At w h it (liO (.ref src) (.int i ti)) → At w h src so → src ∉ [L, acc, it] →
    (∀ h' tk' es' en' na' v, Kp [L, acc, it] h h' → OneOf nAns es' → At w h' L (nsO es' en') → At w h' acc (lstX (ys ++ (rest.map fun _ => Value.bool true).toArray) na') → At w h' it (liO .none v) → R (.ok .next) ⟨h', g, dr, tk', os⟩) →
    codeAny (model pw w) A (.compLoop (ibE p1 p2 p3 p4 p5 p6 iter) 0 (.ref it) (.ref acc) (cEnv ibS L 3 cl q f co fr 0)) R ⟨h, g, dr, tk, os⟩ := by
  intro rest
  induction rest with
  | nil =>
    intro i h tk na en ys es ti hr hyi hes G aL aA aI hs hn k
    obtain ⟨Z, D⟩ : ∃ Z, Rep (KTw w) h [L, acc, it] h [(L, nsO es en), (acc, lstX ys na), (it, liO (.ref src) (.int i ti))] Z := Rep.initC (T := [(L, nsO es en), (acc, lstX ys na), (it, liO (.ref src) (.int i ti))]) G (oc aL (oc aA (oc aI on))) (by kernel_rfl)
    refine start (Q := fun _ _ => True) (E := fun _ _ => True) ?_
    refine eng 2 768 (by exact hA) D (by kernel_rfl) ?_
    intro χ1 h1 D1
    refine hook (c' := .call (.builtin "list_iterator.__next__") ⟨[.ref it], []⟩) (by kernel_rfl) ?_
    have hi : bs.length ≤ i := List.drop_eq_nil_iff.mp hr
    refine li_next_none (i := i) (src := src) (ti := ti) (xs := (bs.map Value.bool).toArray) (n := ns) (so := so) (ac_handled hA) D1.gd (D1.at_ 2 (by kernel_rfl)) (D1.keep.2 _ _ hs.1 hn) hsd (by simp [hi]) ?_
    intro h2 tk2 e t K2 a2 ae he
    refine Exists.elim ((D1.turnPlus (j := 2) (x := (it, liO (.ref src) (.int i ti))) (by kernel_rfl) K2 a2.1 ae he).ex) ?_
    intro Z2 D2
    refine eng 1 1 (by exact hA) D2 (by kernel_rfl) ?_
    intro χ3 h3 D3
    refine fin (f := .next) (by kernel_rfl) ?_
    refine k h3 _ es en na (.int i ti) D3.keep hes (D3.at_ 1 (by kernel_rfl)) ?_ (D3.at_ 3 (by kernel_rfl))
    have := D3.at_ (a := acc) (o := lstX ys na) 2 (by kernel_rfl)
    simpa using this
  | cons b rest ih =>
    intro i h tk na en ys es ti hr hyi hes G aL aA aI hs hn k
    have hv : (bs.map Value.bool).toArray[i]? = some (.bool b) := by
      have := List.head?_drop (l := bs) (i := i)
      rw [hr] at this
      simp [← this]
    have hr' : bs.drop (i + 1) = rest := by rw [← List.drop_drop, hr]; rfl
    have hil : i < bs.length := by
      have := congrArg List.length hr
      simp at this; omega
    have done : ∀ h3 tk3 hs3 t3 v3 en3 ti3, Gd w h3 → Kp [L, acc, it] h h3 → At w h3 L (nsO #[⟨hs3, .str nAns t3, v3⟩] en3) → At w h3 acc (lstX (ys.push (.bool true)) (na + 1)) → At w h3 it (liO (.ref src) (.int (i + 1 : Nat) ti3)) →
        codeAny (model pw w) A (.compLoop (ibE p1 p2 p3 p4 p5 p6 iter) 0 (.ref it) (.ref acc) (cEnv ibS L 3 cl q f co fr 0)) R ⟨h3, g, dr, tk3, os⟩ := by
      intro h3 tk3 hs3 t3 v3 en3 ti3 G3 K3 bL bA bI
      refine ih (i + 1) h3 tk3 (na + 1) en3 (ys.push (.bool true)) _ ti3 hr' (by simp; omega) (.inr ⟨_, _, _, rfl⟩) G3 bL bA bI ⟨K3.2 _ _ hs.1 hn, hs.2⟩ hn ?_
      intro h' tk' es' en' na' x K' a b' c' d
      refine k h' tk' es' en' na' x (K3.trans K' fun _ _ _ q => q) a b' ?_ d
      have e : ys ++ (((b :: rest).map fun _ => Value.bool true).toArray) = ys.push (.bool true) ++ (rest.map fun _ => Value.bool true).toArray := by
        apply Array.ext'; simp
      rw [e]; exact c'
    obtain ⟨Z, D⟩ : ∃ Z, Rep (KTw w) h [L, acc, it] h [(L, nsO es en), (acc, lstX ys na), (it, liO (.ref src) (.int i ti))] Z := Rep.initC (T := [(L, nsO es en), (acc, lstX ys na), (it, liO (.ref src) (.int i ti))]) G (oc aL (oc aA (oc aI on))) (by kernel_rfl)
    rcases hes with rfl | ⟨hs1, t1, v1, rfl⟩
    · skip
      refine start (Q := fun _ _ => True) (E := fun _ _ => True) ?_
      refine eng 2 768 (by exact hA) D (by kernel_rfl) ?_
      intro χ1 h1 D1
      refine hook (c' := .call (.builtin "list_iterator.__next__") ⟨[.ref it], []⟩) (by kernel_rfl) ?_
      have K1 : Kp [] h h1 := Rep.kpF 0 [true, true, true] D D1 (by kernel_rfl)
      refine li_next_some (i := i) (src := src) (ti := ti) (v := .bool b) (xs := (bs.map Value.bool).toArray) (n := ns) (so := so) (ac_handled hA) D1.gd (D1.at_ 2 (by kernel_rfl)) (K1.2 _ _ hs.1 (by simp)) hsd hv ?_
      intro h2 tk2 K2 a2
      refine Exists.elim ((D1.turn (j := 2) (x := (it, liO (.ref src) (.int i ti))) (by kernel_rfl) K2 a2.1).ex) ?_
      intro Z2 D2
      refine eng 22 309485009821346172531376128 (by exact hA) D2 (by kernel_rfl) ?_
      intro χ3 h3 D3
      refine hook (c' := .call (.builtin "list.append") ⟨[.ref acc, .bool true], []⟩) (by kernel_rfl) ?_
      refine append_lst (n := na) (xs := ys) (v := .bool true) (ac_handled hA) (D3.one 1 (by kernel_rfl)) (by omega) ?_
      intro h7 tk7 K7 a7
      refine Exists.elim ((D3.turn (j := 1) (x := (acc, lstX ys na)) (by kernel_rfl) K7 a7.1).ex) ?_
      intro Z7 D7
      refine againC (c' := .compLoop (ibE p1 p2 p3 p4 p5 p6 iter) 0 (.ref it) (.ref acc) (cEnv ibS L 3 cl q f co fr 0)) (c := .compLoop (ibE p1 p2 p3 p4 p5 p6 iter) 0 (.ref it) (.ref acc) (cEnv ibS L 3 cl q f co fr 0)) (by kernel_rfl) ?_
      have bL := D7.at_ (a := L) (o := nsO #[⟨eHi (objAt (TT D7) 0) 0, .str nAns (eKi (objAt (TT D7) 0) 0), .bool b⟩] (en + 1)) 0 (by kernel_rfl)
      have bA := D7.at_ (a := acc) (o := lstX (ys.push (.bool true)) (na + 1)) 1 (by kernel_rfl)
      have bI := D7.at_ (a := it) (o := liO (.ref src) (.int (i + 1 : Nat) 0)) 2 (by kernel_rfl)
      exact done h7 _ _ _ _ _ 0 D7.gd (Rep.kpF 0 [false, false, false] D D7 (by kernel_rfl)) bL bA bI
    · skip
      refine start (Q := fun _ _ => True) (E := fun _ _ => True) ?_
      refine eng 2 768 (by exact hA) D (by kernel_rfl) ?_
      intro χ1 h1 D1
      refine hook (c' := .call (.builtin "list_iterator.__next__") ⟨[.ref it], []⟩) (by kernel_rfl) ?_
      have K1 : Kp [] h h1 := Rep.kpF 0 [true, true, true] D D1 (by kernel_rfl)
      refine li_next_some (i := i) (src := src) (ti := ti) (v := .bool b) (xs := (bs.map Value.bool).toArray) (n := ns) (so := so) (ac_handled hA) D1.gd (D1.at_ 2 (by kernel_rfl)) (K1.2 _ _ hs.1 (by simp)) hsd hv ?_
      intro h2 tk2 K2 a2
      refine Exists.elim ((D1.turn (j := 2) (x := (it, liO (.ref src) (.int i ti))) (by kernel_rfl) K2 a2.1).ex) ?_
      intro Z2 D2
      refine eng 22 309485009821346172531376128 (by exact hA) D2 (by kernel_rfl) ?_
      intro χ3 h3 D3
      refine hook (c' := .call (.builtin "list.append") ⟨[.ref acc, .bool true], []⟩) (by kernel_rfl) ?_
      refine append_lst (n := na) (xs := ys) (v := .bool true) (ac_handled hA) (D3.one 1 (by kernel_rfl)) (by omega) ?_
      intro h7 tk7 K7 a7
      refine Exists.elim ((D3.turn (j := 1) (x := (acc, lstX ys na)) (by kernel_rfl) K7 a7.1).ex) ?_
      intro Z7 D7
      refine againC (c' := .compLoop (ibE p1 p2 p3 p4 p5 p6 iter) 0 (.ref it) (.ref acc) (cEnv ibS L 3 cl q f co fr 0)) (c := .compLoop (ibE p1 p2 p3 p4 p5 p6 iter) 0 (.ref it) (.ref acc) (cEnv ibS L 3 cl q f co fr 0)) (by kernel_rfl) ?_
      have bL := D7.at_ (a := L) (o := nsO #[⟨eHi (objAt (TT D7) 0) 0, .str nAns (eKi (objAt (TT D7) 0) 0), .bool b⟩] (en)) 0 (by kernel_rfl)
      have bA := D7.at_ (a := acc) (o := lstX (ys.push (.bool true)) (na + 1)) 1 (by kernel_rfl)
      have bI := D7.at_ (a := it) (o := liO (.ref src) (.int (i + 1 : Nat) 0)) 2 (by kernel_rfl)
      exact done h7 _ _ _ _ _ 0 D7.gd (Rep.kpF 0 [false, false, false] D D7 (by kernel_rfl)) bL bA bI
theorem comp_isb {L acc it src : Addr} {ns na en : Nat} {so : Obj} {bs : List Bool} {ti : Tok}
   {iter : PySem.Expr} {p1 p2 p3 p4 p5 p6 : Pos} {cl : List (Str × Addr)} {q : Str} {f : Option Addr} {co : Value} {fr : Option Addr}
    (hA : A.handled = none) (hsd : so.data = .seq (bs.map Value.bool).toArray ns) (hsz : bs.length ≤ 500)
    (G : Gd w h) (aL : At w h L (nsO #[] en)) (aA : At w h acc (lstX #[] na)) (aI : At w h it (liO (.ref src) (.int 0 ti))) (hs : At w h src so) (hn : src ∉ [L, acc, it])
    (k : ∀ h' tk' es' en' na' v, Kp [L, acc, it] h h' → OneOf nAns es' → At w h' L (nsO es' en') → At w h' acc (lstX (bs.map fun _ => Value.bool true).toArray na') → At w h' it (liO .none v) → R (.ok .next) ⟨h', g, dr, tk', os⟩) :
    codeAny (model pw w) A (.compStart (ibE p1 p2 p3 p4 p5 p6 iter) 0 (.ref it) (.ref acc) (cEnv ibS L 3 cl q f co fr 0)) R ⟨h, g, dr, tk, os⟩ := by
  refine comp_start hA G aI fun h1 tk1 K1 G1 => ?_
  refine comp_isb_loop (src := src) (so := so) (ns := ns) (bs := bs) hA hsd hsz bs 0 h1 tk1 na en #[] #[] ti rfl (by simp) (.inl rfl) G1 (aL.kp K1 (nin0 _)) (aA.kp K1 (nin0 _)) (aI.kp K1 (nin0 _)) (hs.kp K1 (nin0 _)) hn ?_
  intro h' tk' es' en' na' v K' o a b c
  refine k h' tk' es' en' na' v ((K1.weak (by simp)).trans K' fun _ _ _ q => q) o a ?_ c
  simpa using b
abbrev saidR (ra rb : Nat) : List Value := [.bool (decide (ra < rb)), .bool (decide (ra ≤ rb)), .bool (decide (rb < ra)), .bool (decide (rb ≤ ra)), .bool (decide (ra = rb)), .bool (decide (ra ≠ rb))]
theorem said_eq {ra rb : Nat} (ha : ra < 8) (hb : rb < 8) : saidL (pc ra) (pc rb) = saidR ra rb := by
  have h1 := pc_lt ra ha rb hb
  have h2 := pc_le ra ha rb hb
  have h3 := pc_gt ra ha rb hb
  have h4 := pc_ge ra ha rb hb
  have h5 := pc_eq ra ha rb hb
  have h6 := pc_ne ra ha rb hb
  unfold tC at h1 h2 h3 h4 h5 h6
  unfold saidL
  rw [h1, h2, h3, h4, h5, h6]
theorem decZ {p : Prop} (i j : Decidable p) : @decide p i = @decide p j := by cases Subsingleton.elim i j; rfl
theorem beqZ (i j : DecidableEq Int) (x y : Int) : @BEq.beq Int (@instBEqOfDecidableEq Int i) x y = @BEq.beq Int (@instBEqOfDecidableEq Int j) x y := by
  have : i = j := funext fun a => funext fun b => Subsingleton.elim _ _
  rw [this]
theorem bneZ (i j : DecidableEq Int) (x y : Int) : @bne Int (@instBEqOfDecidableEq Int i) x y = @bne Int (@instBEqOfDecidableEq Int j) x y := by
  have : i = j := funext fun a => funext fun b => Subsingleton.elim _ _
  rw [this]
theorem ne_bools {prog : Program} {w' : World} {E : Value → Shared → Prop} {Q : Value → Shared → Prop} {s : Shared} {l b : Addr} {b1 b2 b3 b4 b5 b6 c1 c2 c3 c4 c5 c6 : Bool} {n n' : Nat}
    (e1 : c1 = b1) (e2 : c2 = b2) (e3 : c3 = b3) (e4 : c4 = b4) (e5 : c5 = b5) (e6 : c6 = b6)
    (hl : s.heap.get? l = some (lstX #[.bool b1, .bool b2, .bool b3, .bool b4, .bool b5, .bool b6] n)) (hb : s.heap.get? b = some (lstX #[.bool c1, .bool c2, .bool c3, .bool c4, .bool c5, .bool c6] n')) (hu : A.units < cLine) (h : Q (.bool false) s) :
    wpAny (model prog w') A (compareOp .NotEq (.ref l) (.ref b)) Q E s := by
  subst e1 e2 e3 e4 e5 e6
  refine RcNeAt.lists (items := #[.bool c1, .bool c2, .bool c3, .bool c4, .bool c5, .bool c6]) (items2 := #[.bool c1, .bool c2, .bool c3, .bool c4, .bool c5, .bool c6]) (e := fun _ => true) ⟨_, hl, rfl, n, rfl⟩ ⟨_, hb, rfl, n', rfl⟩ rfl hu (fun j h1 h2 => EqAt.same _) prog w' E Q ?_
  exact h
theorem tf_eqAt {s : Shared} : EqAt A s (.bool true) (.bool false) false := EqAt.bool_bool true false
theorem turn_g2 {E : Value → Shared → Prop} {Q : Bool → Shared → Prop} {F Tb NL l1 hn qa qb sd : Addr} {H : Nat → Int} {K : Nat → Tok} {k nu ld en n ra rb : Nat} {u1 u2 u3 u4 u5 u6 u7 : Tok} {b1 b2 b3 b4 b5 b6 : Bool}
    (hA : A.handled = none) (hd : A.depth + 40 < recursionLimit) (hu : A.units + 300 < cLine) (G : Gd w h) (aF : At w h F (frL H K (turn5 k nu ld n u1 u2 u3 u4 u5 u6 u7 Tb NL l1 hn qa qb sd ra rb) en)) (as : At w h sd (lstX #[.bool b1, .bool b2, .bool b3, .bool b4, .bool b5, .bool b6] 0))
    (k' : ∀ h' tk', Kp [] h h' → Gd w h' → Q false ⟨h', g, dr, tk', os⟩) :
    wpAny (model pw w) A (isTrue (boE (ifT ((B171 w).drop 10)) 1) (E171 w F) (eval (boE (ifT ((B171 w).drop 10)) 1) (E171 w F))) Q E ⟨h, g, dr, tk, os⟩ := by
  obtain ⟨Z, D⟩ : ∃ Z, Rep (KTw w) h [F, sd] h [(F, frL H K (turn5 k nu ld n u1 u2 u3 u4 u5 u6 u7 Tb NL l1 hn qa qb sd ra rb) en), (sd, lstX #[.bool b1, .bool b2, .bool b3, .bool b4, .bool b5, .bool b6] 0)] Z := Rep.initC (T := [(F, frL H K (turn5 k nu ld n u1 u2 u3 u4 u5 u6 u7 Tb NL l1 hn qa qb sd ra rb) en), (sd, lstX #[.bool b1, .bool b2, .bool b3, .bool b4, .bool b5, .bool b6] 0)]) G (oc aF (oc as on)) (by kernel_rfl)
  refine atCmpT (by kernel_rfl) (by kernel_rfl) ?_
  refine top_eval (R := fun _ _ => True) ?_
  intro θ
  refine eng 0 0 (by exact hA) D (by kernel_rfl) ?_
  intro χ1 h1 D1
  refine finQ (f := .done (.ret (.bool false))) (by kernel_rfl) ?_
  refine top_eval (R := fun _ _ => True) ?_
  intro θ
  refine eng 5 8623489280 (by exact hA) D1 (by kernel_rfl) ?_
  intro χ2 h2 D2
  refine eng2 "special-get-raises" 1 0 1 0 (by exact hA) D2 (by kernel_rfl) ?_
  intro χ3 h3 D3
  refine eng 8 1099511628288 (by exact hA) D3 (by kernel_rfl) ?_
  intro χ4 h4 D4
  refine hook (c' := .compStart (ibE ⟨74, 75, 74, 85⟩ ⟨74, 86, 74, 92⟩ ⟨74, 94, 74, 98⟩ ⟨74, 75, 74, 99⟩ ⟨74, 104, 74, 110⟩ ⟨74, 74, 74, 119⟩ (.Name "said" ⟨74, 114, 74, 118⟩)) 0 (.ref (adrAt χ4.T 2)) (.ref (adrAt χ4.T 1)) (cEnvAt ibS (adrAt χ4.T 0) [] (fdOf (slook (KTw w) 171)) F)) (by kernel_rfl) ?_
  have K4 : Kp [] h h4 := Rep.kpF 3 [true, true] D D4 (by kernel_rfl)
  have a0 := D4.at_ (a := adrAt χ4.T 0) (o := nsO #[] 0) 0 (by kernel_rfl)
  have a1 := D4.at_ (a := adrAt χ4.T 1) (o := lstX #[] 0) 1 (by kernel_rfl)
  have a2 := D4.at_ (a := adrAt χ4.T 2) (o := liO (.ref sd) (.int 0 0)) 2 (by kernel_rfl)
  have a4 := D4.at_ (a := sd) (o := lstX #[.bool b1, .bool b2, .bool b3, .bool b4, .bool b5, .bool b6] 0) 4 (by kernel_rfl)
  refine comp_isb (so := lstX #[.bool b1, .bool b2, .bool b3, .bool b4, .bool b5, .bool b6] 0) (src := sd) (ns := 0) (na := 0) (en := 0) (bs := [b1, b2, b3, b4, b5, b6]) (ti := 0) (ac_handled hA) rfl (by simp) D4.gd a0 a1 a2 a4 (nin3 (D4.apart (a := sd) (o := objAt χ4.T 4) (b := adrAt χ4.T 0) (o' := objAt χ4.T 0) 4 0 (by kernel_rfl)) (D4.apart (a := sd) (o := objAt χ4.T 4) (b := adrAt χ4.T 1) (o' := objAt χ4.T 1) 4 1 (by kernel_rfl)) (D4.apart (a := sd) (o := objAt χ4.T 4) (b := adrAt χ4.T 2) (o' := objAt χ4.T 2) 4 2 (by kernel_rfl))) ?_
  intro h5 tk5 es5 en5 na5 v5 K5 o5 c0 c1 c2
  refine Exists.elim (D4.turnL [(0, nsO es5 en5), (1, lstX ([b1, b2, b3, b4, b5, b6].map fun _ => Value.bool true).toArray na5), (2, liO .none v5)] K5 (by kernel_rfl) (by kernel_rfl) (all3 c0.1 c1.1 c2.1)) ?_
  intro Z5 D5
  have fin5 : ∀ h6 tk6 q n6, Kp [] h h6 → At w h6 q (lstX #[.bool true, .bool true, .bool true, .bool true, .bool true, .bool true] n6) → Gd w h6 → wpAny (model pw w) A (compareOp .In (.bool false) (.ref q)) (fun c s₃ => wpAny (model pw w) A (truthy c) (fun c s' => Q c s') E s₃) E ⟨h6, g, dr, tk6, os⟩ := by
    intro h6 tk6 q n6 K6 aq G6
    refine in_listAt (fun _ => false) ⟨_, aq.1, rfl, n6, rfl⟩ (fun y hy => ?_) ?_
    · have hy : y = .bool true := by simpa using hy
      subst hy
      exact tf_eqAt
    · refine wpAny_truthy_bool ?_
      show Q (#[Value.bool true, Value.bool true, Value.bool true, Value.bool true, Value.bool true, Value.bool true].any fun x => false) _
      rw [show (#[Value.bool true, Value.bool true, Value.bool true, Value.bool true, Value.bool true, Value.bool true].any fun x => false) = false from by simp]
      exact k' _ _ K6 G6
  rcases o5 with rfl | ⟨h1', t1, v1, rfl⟩
  · skip
    refine eng 1 1 (by exact hA) D5 (by kernel_rfl) ?_
    intro χ6 h6 D6
    refine finQ (f := .done (.ret (.ref (adrAt χ4.T 1)))) (by kernel_rfl) ?_
    exact fin5 _ _ _ na5 (Rep.kpF 3 [true, true] D D6 (by kernel_rfl)) (D6.at_ 1 (by kernel_rfl)) D6.gd
  · skip
    refine eng 5 16842753 (by exact hA) D5 (by kernel_rfl) ?_
    intro χ6 h6 D6
    refine finQ (f := .done (.ret (.ref (adrAt χ4.T 1)))) (by kernel_rfl) ?_
    exact fin5 _ _ _ na5 (Rep.kpF 3 [true, true] D D6 (by kernel_rfl)) (D6.at_ 1 (by kernel_rfl)) D6.gd
theorem turn_g {E : Value → Shared → Prop} {Q : Flow → Shared → Prop} {F Tb NL l1 hn qa qb sd : Addr} {H : Nat → Int} {K : Nat → Tok} {k nu ld en n ra rb : Nat} {u1 u2 u3 u4 u5 u6 u7 : Tok} {b1 b2 b3 b4 b5 b6 : Bool}
    (hA : A.handled = none) (hd : A.depth + 40 < recursionLimit) (hu : A.units + 300 < cLine) (G : Gd w h) (aF : At w h F (frL H K (turn5 k nu ld n u1 u2 u3 u4 u5 u6 u7 Tb NL l1 hn qa qb sd ra rb) en)) (as : At w h sd (lstX #[.bool b1, .bool b2, .bool b3, .bool b4, .bool b5, .bool b6] 0))
    (e1 : decide ((ra : Int) < rb) = b1) (e2 : decide ((ra : Int) ≤ rb) = b2) (e3 : decide ((ra : Int) > rb) = b3) (e4 : decide ((ra : Int) ≥ rb) = b4) (e5 : ((ra : Int) == rb) = b5) (e6 : ((ra : Int) != rb) = b6)
    (k' : ∀ h' tk', Kp [] h h' → Gd w h' → wpAny (model pw w) A (execs ((B171 w).drop 11) (E171 w F)) Q E ⟨h', g, dr, tk', os⟩) :
    wpAny (model pw w) A (execs ((B171 w).drop 10) (E171 w F)) Q E ⟨h, g, dr, tk, os⟩ := by
  obtain ⟨Z, D⟩ : ∃ Z, Rep (KTw w) h [F, sd] h [(F, frL H K (turn5 k nu ld n u1 u2 u3 u4 u5 u6 u7 Tb NL l1 hn qa qb sd ra rb) en), (sd, lstX #[.bool b1, .bool b2, .bool b3, .bool b4, .bool b5, .bool b6] 0)] Z := Rep.initC (T := [(F, frL H K (turn5 k nu ld n u1 u2 u3 u4 u5 u6 u7 Tb NL l1 hn qa qb sd ra rb) en), (sd, lstX #[.bool b1, .bool b2, .bool b3, .bool b4, .bool b5, .bool b6] 0)]) G (oc aF (oc as on)) (by kernel_rfl)
  refine atIf (by kernel_rfl) ?_
  refine atOr2 (by kernel_rfl) ?_
  refine atCmpT (by kernel_rfl) (by kernel_rfl) ?_
  refine top_eval (R := fun _ _ => True) ?_
  intro θ
  refine eng 2 256 (by exact hA) D (by kernel_rfl) ?_
  intro χ1 h1 D1
  refine finQ (f := .done (.ret (.ref sd))) (by kernel_rfl) ?_
  refine top_eval (R := fun _ _ => True) ?_
  intro θ
  refine eng 6 4295032832 (by exact hA) D1 (by kernel_rfl) ?_
  intro χ2 h2 D2
  refine eng2 "special-get-raises" 1 0 1 0 (by exact hA) D2 (by kernel_rfl) ?_
  intro χ3 h3 D3
  refine eng 8 281479271677952 (by exact hA) D3 (by kernel_rfl) ?_
  intro χ4 h4 D4
  refine eng2 "special-get-raises" 1 0 1 0 (by exact hA) D4 (by kernel_rfl) ?_
  intro χ5 h5 D5
  refine eng 8 281479271677952 (by exact hA) D5 (by kernel_rfl) ?_
  intro χ6 h6 D6
  refine eng2 "special-get-raises" 1 0 1 0 (by exact hA) D6 (by kernel_rfl) ?_
  intro χ7 h7 D7
  refine eng 8 281479271677952 (by exact hA) D7 (by kernel_rfl) ?_
  intro χ8 h8 D8
  refine eng2 "special-get-raises" 1 0 1 0 (by exact hA) D8 (by kernel_rfl) ?_
  intro χ9 h9 D9
  refine eng 8 281479271677952 (by exact hA) D9 (by kernel_rfl) ?_
  intro χ10 h10 D10
  refine eng2 "special-get-raises" 1 0 1 0 (by exact hA) D10 (by kernel_rfl) ?_
  intro χ11 h11 D11
  refine eng 8 281479271677952 (by exact hA) D11 (by kernel_rfl) ?_
  intro χ12 h12 D12
  refine eng2 "special-get-raises" 1 0 1 0 (by exact hA) D12 (by kernel_rfl) ?_
  intro χ13 h13 D13
  refine eng 4 0 (by exact hA) D13 (by kernel_rfl) ?_
  intro χ14 h14 D14
  refine finQ (f := .done (.ret (.ref (adrAt χ14.T 0)))) (by kernel_rfl) ?_
  have c1 := D14.at_ (a := sd) (o := lstX #[.bool b1, .bool b2, .bool b3, .bool b4, .bool b5, .bool b6] 0) 2 (by kernel_rfl)
  have c2 := D14.at_ (a := adrAt χ14.T 0) (o := lstX #[.bool (@decide _ (PySem.W.Z.ltZ (ra : Int) rb)), .bool (@decide _ (PySem.W.Z.leZ (ra : Int) rb)), .bool (@decide _ (PySem.W.Z.ltZ (rb : Int) ra)), .bool (@decide _ (PySem.W.Z.leZ (rb : Int) ra)), .bool (@BEq.beq Int (@instBEqOfDecidableEq Int PySem.W.Z.eqZ) (ra : Int) rb), .bool (@bne Int (@instBEqOfDecidableEq Int PySem.W.Z.eqZ) (ra : Int) rb)] 0) 0 (by kernel_rfl)
  have K14 : Kp [] h h14 := Rep.kpF 1 [true, true] D D14 (by kernel_rfl)
  refine ne_bools ((decZ _ _).trans e1) ((decZ _ _).trans e2) ((decZ _ _).trans e3) ((decZ _ _).trans e4) ((beqZ _ _ _ _).trans e5) ((bneZ _ _ _ _).trans e6) c1.1 c2.1 (by omega) ?_
  clear c2
  refine wpAny_truthy_bool ?_
  show wpAny _ _ (isTrue _ _ _) _ _ _
  refine turn_g2 (ra := ra) (rb := rb) (Tb := Tb) hA hd hu D14.gd (aF.kp K14 (nin0 _)) c1 ?_
  intro h' tk' K' G'
  exact wpAny_pure (k' h' _ (K14.trans K' fun _ _ _ q => q) G')
end Mine
namespace Mine

namespace Chip
def rowW (P : Nat → Bool) (r : List Nat) : Nat := r.countP P + 16 * r.countP (fun x => !P x)
def ofD : List Nat → Nat
  | [] => 0
  | d :: ds => d + 256 * ofD ds
def codeOf (P : Nat → Bool) (rows : List (List Nat)) : Nat := ofD (rows.map (rowW P))
def wt (P : Nat → Bool) (x : Nat) : Nat := if P x then 1 else 16
def dz (c K : Nat) : Nat := c / K % 16
def dO (c K : Nat) : Nat := c / K / 16 % 16
def mv (c K a b : Nat) : Nat := c + K * a + 65536 * K * b - 256 * K * (a + b)
def mvs (c K : Nat) : List Nat :=
  let z := dz c (256 * K)
  let o := dO c (256 * K)
  let r := if Nat.ble 2 o then [mv c K 16 16] else []
  let r := if Nat.ble 1 z && Nat.ble 1 o then mv c K 1 16 :: r else r
  if Nat.ble 2 z then mv c K 1 1 :: r else r
def ins (x : Nat) : List Nat → List Nat
  | [] => [x]
  | y :: ys => if Nat.beq x y then y :: ys else if Nat.blt x y then x :: y :: ys else y :: ins x ys
def insAll : List Nat → List Nat → List Nat
  | [], L => L
  | x :: xs, L => insAll xs (ins x L)
def stepOne (c : Nat) : List Nat → List Nat → List Nat
  | [], L => L
  | K :: Ks, L => stepOne c Ks (insAll (mvs c K) L)
def next (Ks : List Nat) : List Nat → List Nat → List Nat
  | [], L => L
  | c :: cs, L => next Ks cs (stepOne c Ks L)
def good (Ks : List Nat) (Z : Nat) (c : Nat) : Bool :=
  Ks.any (fun K => Nat.ble 2 (dz c (256 * K) + dO c (256 * K))) && Nat.ble (dz c 1 + dO c 1) 1 && Nat.ble (dz c Z + dO c Z) 1
def check (Ks : List Nat) (Z fin : Nat) : Nat → List Nat → Bool
  | 0, L => L.all (fun c => Nat.beq c fin)
  | n + 1, L => L.all (good Ks Z) && check Ks Z fin n (next Ks L [])
def Ks (half : Nat) : List Nat := (List.range (2 * half - 1)).map (256 ^ ·)
def finD (half z : Nat) : List Nat := (List.range (2 * half + 1)).map fun s => if s = half then 0 else if (if s < half then s else s - 1) < z then 1 else 16
def ini (half z : Nat) : Nat := 256 ^ half * (z + 16 * (2 * half - z))
def turns (half : Nat) : Nat := half * (half + 1) * (2 * half + 1) / 6
def chk (half z : Nat) : Bool := check (Ks half) (256 ^ (2 * half)) (ofD (finD half z)) (turns half) [ini half z]
theorem chk2 : (List.range 5).all (chk 2) = true := by decide +kernel
theorem chk3 : (List.range 7).all (chk 3) = true := by decide +kernel
theorem k40 : chk 4 0 = true := by decide +kernel
theorem k41 : chk 4 1 = true := by decide +kernel
theorem k42 : chk 4 2 = true := by decide +kernel
theorem k43 : chk 4 3 = true := by decide +kernel
theorem k44 : chk 4 4 = true := by decide +kernel
theorem k45 : chk 4 5 = true := by decide +kernel
theorem k46 : chk 4 6 = true := by decide +kernel
theorem k47 : chk 4 7 = true := by decide +kernel
theorem k48 : chk 4 8 = true := by decide +kernel
theorem chk4 : (List.range 9).all (chk 4) = true := by
  show ([0, 1, 2, 3, 4, 5, 6, 7, 8] : List Nat).all _ = _
  simp only [List.all_cons, List.all_nil, k40, k41, k42, k43, k44, k45, k46, k47, k48, Bool.and_self]
end Chip
namespace Chip
theorem mem_ins_self (x : Nat) : ∀ L, x ∈ ins x L
  | [] => .head _
  | y :: ys => by
    unfold ins
    split
    · rename_i h; rw [Nat.eq_of_beq_eq_true h]; exact .head _
    · split
      · exact .head _
      · exact .tail _ (mem_ins_self x ys)
theorem mem_ins_of {x z : Nat} : ∀ {L : List Nat}, z ∈ L → z ∈ ins x L
  | y :: ys, h => by
    unfold ins
    split
    · exact h
    · split
      · exact .tail _ h
      · rcases List.mem_cons.mp h with rfl | h
        · exact .head _
        · exact .tail _ (mem_ins_of h)
theorem mem_insAll_of {z : Nat} : ∀ {xs L : List Nat}, z ∈ L → z ∈ insAll xs L
  | [], _, h => h
  | x :: xs, L, h => mem_insAll_of (xs := xs) (L := ins x L) (mem_ins_of h)
theorem mem_insAll {z : Nat} : ∀ {xs L : List Nat}, z ∈ xs → z ∈ insAll xs L
  | x :: xs, L, h => by
    rcases List.mem_cons.mp h with rfl | h
    · exact mem_insAll_of (xs := xs) (L := ins z L) (mem_ins_self _ _)
    · exact mem_insAll (xs := xs) (L := ins x L) h
theorem mem_stepOne_of {c z : Nat} : ∀ {Ks L : List Nat}, z ∈ L → z ∈ stepOne c Ks L
  | [], _, h => h
  | x :: xs, L, h => mem_stepOne_of (Ks := xs) (L := insAll (mvs c x) L) (mem_insAll_of h)
theorem mem_stepOne {c z K : Nat} (hz : z ∈ mvs c K) : ∀ {Ks L : List Nat}, K ∈ Ks → z ∈ stepOne c Ks L
  | x :: xs, L, h => by
    rcases List.mem_cons.mp h with rfl | h
    · exact mem_stepOne_of (Ks := xs) (L := insAll (mvs c K) L) (mem_insAll hz)
    · exact mem_stepOne hz (Ks := xs) (L := insAll (mvs c x) L) h
theorem mem_next_of {z : Nat} {Ks : List Nat} : ∀ {cs L : List Nat}, z ∈ L → z ∈ next Ks cs L
  | [], _, h => h
  | x :: xs, L, h => mem_next_of (cs := xs) (L := stepOne x Ks L) (mem_stepOne_of h)
theorem mem_next {c z K : Nat} {Ks : List Nat} (hz : z ∈ mvs c K) (hK : K ∈ Ks) : ∀ {cs L : List Nat}, c ∈ cs → z ∈ next Ks cs L
  | x :: xs, L, h => by
    rcases List.mem_cons.mp h with rfl | h
    · exact mem_next_of (cs := xs) (L := stepOne c Ks L) (mem_stepOne hz hK)
    · exact mem_next hz hK (cs := xs) (L := stepOne x Ks L) h
def lay (Ks : List Nat) : Nat → List Nat → List Nat
  | 0, L => L
  | n + 1, L => lay Ks n (next Ks L [])
theorem lay_succ (Ks : List Nat) : ∀ (n : Nat) (L : List Nat), lay Ks (n + 1) L = next Ks (lay Ks n L) []
  | 0, _ => rfl
  | n + 1, L => lay_succ Ks n (next Ks L [])
theorem check_good {Ks : List Nat} {Z fin : Nat} : ∀ (n : Nat) (L : List Nat), check Ks Z fin n L = true → ∀ t < n, ∀ c ∈ lay Ks t L, good Ks Z c = true
  | 0, _, _, _, h, _, _ => absurd h (Nat.not_lt_zero _)
  | n + 1, L, h, t, ht, c, hc => by
    unfold check at h
    rw [Bool.and_eq_true] at h
    cases t with
    | zero => exact List.all_eq_true.mp h.1 c hc
    | succ t => exact check_good n _ h.2 t (by omega) c hc
theorem check_fin {Ks : List Nat} {Z fin : Nat} : ∀ (n : Nat) (L : List Nat), check Ks Z fin n L = true → ∀ c ∈ lay Ks n L, c = fin
  | 0, L, h, c, hc => Nat.eq_of_beq_eq_true (List.all_eq_true.mp h c hc)
  | n + 1, L, h, c, hc => by
    unfold check at h
    rw [Bool.and_eq_true] at h
    exact check_fin n _ h.2 c hc
theorem chk_all {half z : Nat} (h2 : 2 ≤ half) (h4 : half ≤ 4) (hz : z ≤ 2 * half) : chk half z = true := by
  have : half = 2 ∨ half = 3 ∨ half = 4 := by omega
  rcases this with rfl | rfl | rfl
  · exact List.all_eq_true.mp chk2 z (List.mem_range.mpr (by omega))
  · exact List.all_eq_true.mp chk3 z (List.mem_range.mpr (by omega))
  · exact List.all_eq_true.mp chk4 z (List.mem_range.mpr (by omega))
theorem ofD_drop : ∀ (k : Nat) (ds : List Nat), (∀ d ∈ ds, d < 256) → ofD ds / 256 ^ k = ofD (ds.drop k)
  | 0, ds, _ => by simp
  | k + 1, [], _ => by simp [ofD]
  | k + 1, d :: ds, h => by
    have h1 := h d (.head _)
    have ih := ofD_drop k ds fun x hx => h x (.tail _ hx)
    rw [List.drop_succ_cons, ← ih, Nat.pow_succ, Nat.mul_comm (256 ^ k) 256, ← Nat.div_div_eq_div_mul]
    congr 1
    show (d + 256 * ofD ds) / 256 = ofD ds
    omega
theorem ofD_get {k d : Nat} {ds : List Nat} (h : ∀ d ∈ ds, d < 256) (e : ds[k]? = some d) : ∃ r, ofD ds / 256 ^ k = d + 256 * r := by
  rw [ofD_drop k ds h]
  obtain ⟨hl, e⟩ := List.getElem?_eq_some_iff.mp e
  rw [List.drop_eq_getElem_cons hl, e]
  exact ⟨_, rfl⟩
theorem ofD_set : ∀ (k : Nat) (ds : List Nat) (d x : Nat), ds[k]? = some d → ofD (ds.set k x) + 256 ^ k * d = ofD ds + 256 ^ k * x
  | _, [], _, _, e => by simp at e
  | 0, y :: ds, d, x, e => by
    simp only [List.getElem?_cons_zero, Option.some.injEq] at e
    subst e
    simp only [List.set_cons_zero, ofD]
    omega
  | k + 1, y :: ds, d, x, e => by
    simp only [List.getElem?_cons_succ] at e
    have ih := ofD_set k ds d x e
    simp only [List.set_cons_succ, ofD, Nat.pow_succ]
    have e1 : 256 ^ k * 256 * d = 256 * (256 ^ k * d) := by rw [Nat.mul_comm (256 ^ k) 256, Nat.mul_assoc]
    have e2 : 256 ^ k * 256 * x = 256 * (256 ^ k * x) := by rw [Nat.mul_comm (256 ^ k) 256, Nat.mul_assoc]
    rw [e1, e2]
    omega
theorem ofD_inj : ∀ (xs ys : List Nat), xs.length = ys.length → (∀ d ∈ xs, d < 256) → (∀ d ∈ ys, d < 256) → ofD xs = ofD ys → xs = ys
  | [], [], _, _, _, _ => rfl
  | x :: xs, y :: ys, hl, hx, hy, e => by
    have h1 := hx x (.head _)
    have h2 := hy y (.head _)
    simp only [ofD] at e
    have e1 : x = y := by omega
    have e2 : ofD xs = ofD ys := by omega
    rw [e1, ofD_inj xs ys (by simpa using hl) (fun d h => hx d (.tail _ h)) (fun d h => hy d (.tail _ h)) e2]
theorem rowW_app (P : Nat → Bool) (r : List Nat) (x : Nat) : rowW P (r ++ [x]) = rowW P r + wt P x := by
  unfold rowW wt
  cases h : P x <;> simp [List.countP_append, h] <;> omega
theorem rowW_len (P : Nat → Bool) (r : List Nat) : r.countP P + r.countP (fun x => !P x) = r.length := by
  have := List.length_eq_countP_add_countP P (l := r)
  simpa using this.symm
def cutR {α : Type} (i j : Nat) (r : List α) : List α := r.take i ++ ((r.drop i).eraseIdx (j - i)).eraseIdx 0
theorem rowW_erase (P : Nat → Bool) : ∀ (m : Nat) (r : List Nat) (x : Nat), r[m]? = some x → rowW P (r.eraseIdx m) + wt P x = rowW P r
  | _, [], _, e => by simp at e
  | 0, y :: r, x, e => by
    simp only [List.getElem?_cons_zero, Option.some.injEq] at e
    subst e
    unfold rowW wt
    cases h : P y <;> simp [List.countP_cons, h] <;> omega
  | m + 1, y :: r, x, e => by
    simp only [List.getElem?_cons_succ] at e
    have ih := rowW_erase P m r x e
    unfold rowW at ih ⊢
    simp only [List.eraseIdx_cons_succ, List.countP_cons]
    omega
theorem cutR_eq {α : Type} {i j : Nat} {r : List α} (hij : i < j) (hj : j < r.length) : cutR i j r = r.take i ++ (r.drop (i + 1)).eraseIdx (j - i - 1) := by
  unfold cutR
  congr 1
  rw [List.drop_eq_getElem_cons (show i < r.length by omega)]
  obtain ⟨m, hm⟩ : ∃ m, j - i = m + 1 := ⟨j - i - 1, by omega⟩
  rw [hm, List.eraseIdx_cons_succ, List.eraseIdx_cons_zero, Nat.add_sub_cancel]
theorem rowW_append (P : Nat → Bool) (r s : List Nat) : rowW P (r ++ s) = rowW P r + rowW P s := by
  unfold rowW; simp only [List.countP_append]; omega
theorem rowW_cut (P : Nat → Bool) {i j a b : Nat} {r : List Nat} (hij : i < j) (ea : r[i]? = some a) (eb : r[j]? = some b) : rowW P (cutR i j r) + wt P a + wt P b = rowW P r := by
  obtain ⟨hl, ea⟩ := List.getElem?_eq_some_iff.mp ea
  obtain ⟨hl2, eb⟩ := List.getElem?_eq_some_iff.mp eb
  rw [cutR_eq hij hl2, rowW_append]
  have e1 : rowW P r = rowW P (r.take i) + rowW P (r.drop i) := by rw [← rowW_append, List.take_append_drop]
  have e2 := rowW_erase P (j - i - 1) (r.drop (i + 1)) b (by rw [List.getElem?_drop, show i + 1 + (j - i - 1) = j by omega, List.getElem?_eq_getElem hl2, eb])
  have e3 := rowW_erase P 0 (r.drop i) a (by rw [List.getElem?_drop, Nat.add_zero, List.getElem?_eq_getElem hl, ea])
  rw [List.drop_eq_getElem_cons hl, List.eraseIdx_cons_zero] at e3
  rw [List.drop_eq_getElem_cons hl] at e1
  omega
theorem cutR_len {α : Type} {i j : Nat} {r : List α} (hij : i < j) (hj : j < r.length) : (cutR i j r).length + 2 = r.length := by
  rw [cutR_eq hij hj]
  simp only [List.length_append, List.length_take, List.length_eraseIdx, List.length_drop]
  split <;> omega
theorem cutR_mem {α : Type} {i j : Nat} {r : List α} {x : α} (h : x ∈ cutR i j r) : x ∈ r := by
  unfold cutR at h
  rcases List.mem_append.mp h with h | h
  · exact List.mem_of_mem_take h
  · exact List.mem_of_mem_drop (List.mem_of_mem_eraseIdx (List.mem_of_mem_eraseIdx h))
theorem map_eraseIdx' {α β : Type} (f : α → β) : ∀ (m : Nat) (r : List α), (r.eraseIdx m).map f = (r.map f).eraseIdx m
  | _, [] => by simp
  | 0, y :: r => rfl
  | m + 1, y :: r => by simp only [List.eraseIdx_cons_succ, List.map_cons, map_eraseIdx' f m r]
theorem cutR_map {α β : Type} (f : α → β) (i j : Nat) (r : List α) : (cutR i j r).map f = cutR i j (r.map f) := by
  unfold cutR
  rw [List.map_append, map_eraseIdx', map_eraseIdx', List.map_take, List.map_drop]
def turnR (rows : List (List Nat)) (k i j l r : Nat) : List (List Nat) :=
  ((rows.set k (rows.getD k [] ++ [l])).set (k + 1) (cutR i j (rows.getD (k + 1) []))).set (k + 2) (rows.getD (k + 2) [] ++ [r])
theorem code_turn (P : Nat → Bool) {rows : List (List Nat)} {k i j a b l r : Nat} {ra rb rc : List Nat} (e0 : rows[k]? = some ra) (e1 : rows[k + 1]? = some rb) (e2 : rows[k + 2]? = some rc) (hij : i < j) (ea : rb[i]? = some a) (eb : rb[j]? = some b)
    (hlr : (l = a ∧ r = b) ∨ (l = b ∧ r = a)) :
    codeOf P (turnR rows k i j l r) + 256 * 256 ^ k * (wt P l + wt P r) = codeOf P rows + 256 ^ k * wt P l + 65536 * 256 ^ k * wt P r := by
  have hw := rowW_cut P hij ea eb
  have hs : wt P a + wt P b = wt P l + wt P r := by rcases hlr with ⟨rfl, rfl⟩ | ⟨rfl, rfl⟩ <;> omega
  unfold turnR codeOf
  simp only [List.getD_eq_getElem?_getD, e0, e1, e2, Option.getD_some, List.map_set]
  have d0 : (rows.map (rowW P))[k]? = some (rowW P ra) := by rw [List.getElem?_map, e0]; rfl
  have d1 : (rows.map (rowW P))[k + 1]? = some (rowW P rb) := by rw [List.getElem?_map, e1]; rfl
  have d2 : (rows.map (rowW P))[k + 2]? = some (rowW P rc) := by rw [List.getElem?_map, e2]; rfl
  have f0 := ofD_set k (rows.map (rowW P)) _ (rowW P (ra ++ [l])) d0
  have f1 := ofD_set (k + 1) ((rows.map (rowW P)).set k (rowW P (ra ++ [l]))) _ (rowW P (cutR i j rb)) (by rw [List.getElem?_set_ne (by omega)]; exact d1)
  have f2 := ofD_set (k + 2) (((rows.map (rowW P)).set k (rowW P (ra ++ [l]))).set (k + 1) (rowW P (cutR i j rb))) _ (rowW P (rc ++ [r])) (by rw [List.getElem?_set_ne (by omega), List.getElem?_set_ne (by omega)]; exact d2)
  rw [rowW_app] at f0 f2
  rw [show rowW P rb = rowW P (cutR i j rb) + (wt P l + wt P r) by omega] at f1
  simp only [rowW_app, Nat.pow_succ, Nat.mul_add] at f0 f1 f2 ⊢
  generalize ofD (((List.map (rowW P) rows).set k (rowW P ra + wt P l)).set (k + 1) (rowW P (cutR i j rb)) |>.set (k + 2) (rowW P rc + wt P r)) = c3 at f2 ⊢
  generalize ofD (((List.map (rowW P) rows).set k (rowW P ra + wt P l)).set (k + 1) (rowW P (cutR i j rb))) = c2 at f1 f2
  generalize ofD ((List.map (rowW P) rows).set k (rowW P ra + wt P l)) = c1 at f0 f1
  generalize ofD (List.map (rowW P) rows) = c0 at f0 ⊢
  generalize 256 ^ k = K at *
  have m1 : K * 256 * wt P l = 256 * K * wt P l := by rw [Nat.mul_comm K 256]
  have m2 : K * 256 * wt P r = 256 * K * wt P r := by rw [Nat.mul_comm K 256]
  have m3 : K * 256 * 256 * wt P r = 65536 * K * wt P r := by rw [Nat.mul_assoc K 256 256, Nat.mul_comm K (256 * 256)]
  rw [m1, m2] at f1
  rw [m3] at f2
  omega
end Chip
namespace Chip
def Pd (desc : Bool) (θ x : Nat) : Bool := if desc then decide (θ ≤ x) else decide (x < θ)
structure Inv (half : Nat) (desc : Bool) (pcs : List Nat) (t : Nat) (rows : List (List Nat)) : Prop where
  len : rows.length = 2 * half + 1
  tot : (rows.map List.length).sum = 2 * half
  small : ∀ r ∈ rows, ∀ x ∈ r, x < 8
  lay : ∀ θ, codeOf (Pd desc θ) rows ∈ lay (Ks half) t [ini half (pcs.countP (Pd desc θ))]
theorem le_sum {l : List Nat} {x : Nat} (h : x ∈ l) : x ≤ l.sum := by
  induction l with
  | nil => cases h
  | cons y l ih =>
    rw [List.sum_cons]
    rcases List.mem_cons.mp h with rfl | h
    · omega
    · have := ih h; omega
variable {half t : Nat} {desc : Bool} {pcs : List Nat} {rows : List (List Nat)}
theorem Inv.row_le (I : Inv half desc pcs t rows) {r : List Nat} (h : r ∈ rows) : r.length ≤ 2 * half := by
  rw [← I.tot]; exact le_sum (List.mem_map_of_mem h)
theorem rowW_lt (P : Nat → Bool) {r : List Nat} (h : r.length ≤ 8) : rowW P r < 256 := by
  have := rowW_len P r
  unfold rowW; omega
theorem Inv.figs (I : Inv half desc pcs t rows) (h4 : half ≤ 4) (P : Nat → Bool) : ∀ d ∈ rows.map (rowW P), d < 256 := by
  intro d hd
  obtain ⟨r, hr, rfl⟩ := List.mem_map.mp hd
  exact rowW_lt P (by have := I.row_le hr; omega)
theorem Inv.dig (I : Inv half desc pcs t rows) (h4 : half ≤ 4) (P : Nat → Bool) {k : Nat} {r : List Nat} (e : rows[k]? = some r) :
    dz (codeOf P rows) (256 ^ k) = r.countP P ∧ dO (codeOf P rows) (256 ^ k) = r.countP (fun x => !P x) := by
  obtain ⟨q, hq⟩ := ofD_get (I.figs h4 P) (k := k) (d := rowW P r) (by rw [List.getElem?_map, e]; rfl)
  have h1 := I.row_le (List.mem_of_getElem? e)
  have h2 := rowW_len P r
  unfold dz dO codeOf
  rw [hq]
  unfold rowW
  have h3 : r.length ≤ 8 := by omega
  clear hq e h1
  generalize r.countP P = x at *
  generalize r.countP (fun x => !P x) = y at *
  have hx : x < 16 := by omega
  have hy : y < 16 := by omega
  clear h2 h3
  constructor
  · omega
  · rw [show x + 16 * y + 256 * q = x + 16 * (y + 16 * q) by omega, Nat.add_mul_div_left _ _ (by decide), Nat.div_eq_of_lt hx, Nat.zero_add, Nat.add_mul_mod_self_left, Nat.mod_eq_of_lt hy]
theorem mem_Ks {k : Nat} (h : k + 1 < 2 * half) : 256 ^ k ∈ Ks half := by
  unfold Ks
  exact List.mem_map.mpr ⟨k, List.mem_range.mpr (by omega), rfl⟩
theorem Inv.chk (I : Inv half desc pcs t rows) (h2 : 2 ≤ half) (h4 : half ≤ 4) (hp : pcs.length = 2 * half) (ht : t < turns half) (θ : Nat) : good (Ks half) (256 ^ (2 * half)) (codeOf (Pd desc θ) rows) = true :=
  check_good _ _ (chk_all h2 h4 (z := pcs.countP (Pd desc θ)) (by rw [← hp]; exact List.countP_le_length)) t ht _ (I.lay θ)
theorem pow_succ' (k : Nat) : 256 * 256 ^ k = 256 ^ (k + 1) := by rw [Nat.pow_succ, Nat.mul_comm]
theorem Inv.some_full (I : Inv half desc pcs t rows) (h2 : 2 ≤ half) (h4 : half ≤ 4) (hp : pcs.length = 2 * half) (ht : t < turns half) : ∃ (k : Nat) (r : List Nat), rows[k]? = some r ∧ 1 < r.length := by
  have h := I.chk h2 h4 hp ht 0
  unfold good at h
  rw [Bool.and_eq_true, Bool.and_eq_true] at h
  obtain ⟨K, hK, hb⟩ := List.any_eq_true.mp h.1.1
  obtain ⟨k, hk, rfl⟩ := List.mem_map.mp hK
  have hk := List.mem_range.mp hk
  have hl : k + 1 < rows.length := by rw [I.len]; omega
  have e := List.getElem?_eq_getElem hl
  refine ⟨k + 1, _, e, ?_⟩
  have := I.dig h4 (Pd desc 0) e
  rw [pow_succ', this.1, this.2, rowW_len] at hb
  exact Nat.le_of_ble_eq_true hb
theorem Inv.full_in (I : Inv half desc pcs t rows) (h2 : 2 ≤ half) (h4 : half ≤ 4) (hp : pcs.length = 2 * half) (ht : t < turns half) {k : Nat} {r : List Nat} (e : rows[k]? = some r) (hr : 1 < r.length) : 0 < k ∧ k < 2 * half := by
  have h := I.chk h2 h4 hp ht 0
  unfold good at h
  rw [Bool.and_eq_true, Bool.and_eq_true] at h
  have d := I.dig h4 (Pd desc 0) e
  have hl := rowW_len (Pd desc 0) r
  have hk : k < rows.length := (List.getElem?_eq_some_iff.mp e).1
  rw [I.len] at hk
  refine ⟨Nat.pos_of_ne_zero fun z => ?_, Nat.lt_of_le_of_ne (by omega) fun z => ?_⟩
  · subst z
    have := Nat.le_of_ble_eq_true h.1.2
    have e0 : (256 : Nat) ^ 0 = 1 := rfl
    rw [e0] at d
    omega
  · subst z
    have := Nat.le_of_ble_eq_true h.2
    omega
theorem sum_set : ∀ (k : Nat) (l : List Nat) (x y : Nat), l[k]? = some x → (l.set k y).sum + x = l.sum + y
  | _, [], _, _, e => by simp at e
  | 0, z :: l, x, y, e => by
    simp only [List.getElem?_cons_zero, Option.some.injEq] at e
    subst e
    simp only [List.set_cons_zero, List.sum_cons]; omega
  | k + 1, z :: l, x, y, e => by
    simp only [List.getElem?_cons_succ] at e
    have := sum_set k l x y e
    simp only [List.set_cons_succ, List.sum_cons]; omega
theorem turnR_len (rows : List (List Nat)) (k i j l r : Nat) : (turnR rows k i j l r).length = rows.length := by simp [turnR]
theorem turnR_get {k i j l r : Nat} {ra rb rc : List Nat} (e0 : rows[k]? = some ra) (e1 : rows[k + 1]? = some rb) (e2 : rows[k + 2]? = some rc) :
    turnR rows k i j l r = ((rows.set k (ra ++ [l])).set (k + 1) (cutR i j rb)).set (k + 2) (rc ++ [r]) := by
  unfold turnR
  simp only [List.getD_eq_getElem?_getD, e0, e1, e2, Option.getD_some]
theorem mem_set {α : Type} {l : List α} {k : Nat} {x y : α} (h : x ∈ l.set k y) : x = y ∨ x ∈ l := by
  rcases List.mem_or_eq_of_mem_set h with h | h
  · exact .inr h
  · exact .inl h
theorem mv_eq {K c c' a b : Nat} (h : c' + 256 * K * (a + b) = c + K * a + 65536 * K * b) : c' = mv c K a b := by unfold mv; omega
theorem wt_eq (P : Nat → Bool) (x : Nat) : (P x = true ∧ wt P x = 1) ∨ (P x = false ∧ wt P x = 16) := by
  unfold wt; cases P x <;> simp
theorem countP_two {P : Nat → Bool} {r : List Nat} {i j a b : Nat} (hij : i < j) (ea : r[i]? = some a) (eb : r[j]? = some b) : (if P a then 1 else 0) + (if P b then 1 else 0) ≤ r.countP P := by
  obtain ⟨hl, ea⟩ := List.getElem?_eq_some_iff.mp ea
  obtain ⟨hl2, eb⟩ := List.getElem?_eq_some_iff.mp eb
  have e1 : r.countP P = (r.take j).countP P + (r.drop j).countP P := by rw [← List.countP_append, List.take_append_drop]
  have m1 : a ∈ r.take j := by
    rw [List.mem_iff_getElem?]
    exact ⟨i, by rw [List.getElem?_take_of_lt hij, List.getElem?_eq_getElem hl, ea]⟩
  have m2 : b ∈ r.drop j := by
    rw [List.mem_iff_getElem?]
    exact ⟨0, by rw [List.getElem?_drop, Nat.add_zero, List.getElem?_eq_getElem hl2, eb]⟩
  have p1 : P a = true → 0 < (r.take j).countP P := fun h => List.countP_pos_iff.mpr ⟨a, m1, h⟩
  have p2 : P b = true → 0 < (r.drop j).countP P := fun h => List.countP_pos_iff.mpr ⟨b, m2, h⟩
  rw [e1]
  cases ha : P a <;> cases hb : P b <;> rw [ha] at p1 <;> rw [hb] at p2 <;> simp only [Bool.false_eq_true, if_false, if_true]
  · omega
  · have := p2 rfl; omega
  · have := p1 rfl; omega
  · have := p1 rfl; have := p2 rfl; omega
theorem Inv.turn (I : Inv half desc pcs t rows) (h4 : half ≤ 4) {k i j a b l r : Nat} {ra rb rc : List Nat} (e0 : rows[k]? = some ra) (e1 : rows[k + 1]? = some rb) (e2 : rows[k + 2]? = some rc) (hij : i < j) (ea : rb[i]? = some a) (eb : rb[j]? = some b)
    (hlr : (l = a ∧ r = b) ∨ (l = b ∧ r = a)) (hs : if desc then r ≤ l else l ≤ r) : Inv half desc pcs (t + 1) (turnR rows k i j l r) := by
  have hj : j < rb.length := (List.getElem?_eq_some_iff.mp eb).1
  have hk : k + 2 < rows.length := (List.getElem?_eq_some_iff.mp e2).1
  have ha8 := I.small rb (List.mem_of_getElem? e1) a (List.mem_of_getElem? ea)
  have hb8 := I.small rb (List.mem_of_getElem? e1) b (List.mem_of_getElem? eb)
  refine ⟨by rw [turnR_len]; exact I.len, ?_, ?_, fun θ => ?_⟩
  · rw [turnR_get e0 e1 e2]
    simp only [List.map_set]
    have d0 : (rows.map List.length)[k]? = some ra.length := by rw [List.getElem?_map, e0]; rfl
    have d1 : (rows.map List.length)[k + 1]? = some rb.length := by rw [List.getElem?_map, e1]; rfl
    have d2 : (rows.map List.length)[k + 2]? = some rc.length := by rw [List.getElem?_map, e2]; rfl
    have f0 := sum_set k (rows.map List.length) _ (ra ++ [l]).length d0
    have f1 := sum_set (k + 1) ((rows.map List.length).set k (ra ++ [l]).length) _ (cutR i j rb).length (by rw [List.getElem?_set_ne (by omega)]; exact d1)
    have f2 := sum_set (k + 2) (((rows.map List.length).set k (ra ++ [l]).length).set (k + 1) (cutR i j rb).length) _ (rc ++ [r]).length (by rw [List.getElem?_set_ne (by omega), List.getElem?_set_ne (by omega)]; exact d2)
    have hc := cutR_len hij hj
    have := I.tot
    simp only [List.length_append, List.length_cons, List.length_nil] at f0 f1 f2 ⊢
    omega
  · rw [turnR_get e0 e1 e2]
    intro q hq x hx
    have hl8 : l < 8 ∧ r < 8 := by rcases hlr with ⟨rfl, rfl⟩ | ⟨rfl, rfl⟩ <;> exact ⟨by assumption, by assumption⟩
    rcases mem_set hq with rfl | hq
    · rcases List.mem_append.mp hx with hx | hx
      · exact I.small rc (List.mem_of_getElem? e2) x hx
      · rw [List.mem_singleton.mp hx]; exact hl8.2
    rcases mem_set hq with rfl | hq
    · exact I.small rb (List.mem_of_getElem? e1) x (cutR_mem hx)
    rcases mem_set hq with rfl | hq
    · rcases List.mem_append.mp hx with hx | hx
      · exact I.small ra (List.mem_of_getElem? e0) x hx
      · rw [List.mem_singleton.mp hx]; exact hl8.1
    · exact I.small q hq x hx
  · rw [lay_succ]
    have hc := code_turn (Pd desc θ) e0 e1 e2 hij ea eb hlr
    have hK : 256 ^ k ∈ Ks half := mem_Ks (by rw [I.len] at hk; omega)
    refine mem_next (K := 256 ^ k) ?_ hK (I.lay θ)
    have hd := I.dig h4 (Pd desc θ) e1
    have hz := countP_two (P := Pd desc θ) hij ea eb
    have ho := countP_two (P := fun x => !Pd desc θ x) hij ea eb
    have hm := mv_eq hc
    unfold mvs
    rw [pow_succ', hd.1, hd.2, hm]
    have key : Pd desc θ r = true → Pd desc θ l = true := by
      unfold Pd
      cases desc
      · simp only [Bool.false_eq_true, if_false, decide_eq_true_eq] at hs ⊢; omega
      · simp only [if_true, decide_eq_true_eq] at hs ⊢; omega
    generalize hP : Pd desc θ = P at *
    have cnt : (if P a then 1 else 0) + (if P b then 1 else 0) = (if P l then 1 else 0) + (if P r then 1 else 0) ∧ (if !P a then 1 else 0) + (if !P b then 1 else 0) = (if !P l then 1 else 0) + (if !P r then 1 else 0) := by
      rcases hlr with ⟨rfl, rfl⟩ | ⟨rfl, rfl⟩
      · exact ⟨rfl, rfl⟩
      · exact ⟨Nat.add_comm _ _, Nat.add_comm _ _⟩
    rw [cnt.1] at hz
    rw [cnt.2] at ho
    rcases wt_eq P l with ⟨pl, wl⟩ | ⟨pl, wl⟩ <;> rcases wt_eq P r with ⟨pr, wr⟩ | ⟨pr, wr⟩
    · rw [wl, wr]
      simp only [pl, pr, if_true] at hz
      have : Nat.ble 2 (rb.countP P) = true := Nat.ble_eq_true_of_le hz
      simp only [this, if_true]
      exact .head _
    · rw [wl, wr]
      simp only [pl, pr, if_true, Bool.not_true, Bool.not_false, Bool.false_eq_true, if_false] at hz ho
      have t1 : Nat.ble 1 (rb.countP P) = true := Nat.ble_eq_true_of_le (by omega)
      have t2 : Nat.ble 1 (rb.countP fun x => !P x) = true := Nat.ble_eq_true_of_le (by omega)
      simp only [t1, t2, Bool.and_true, if_true]
      split
      · exact .tail _ (.head _)
      · exact .head _
    · rw [key pr] at pl; cases pl
    · rw [wl, wr]
      simp only [pl, pr, Bool.not_false, if_true] at ho
      have t2 : Nat.ble 2 (rb.countP fun x => !P x) = true := Nat.ble_eq_true_of_le ho
      simp only [t2, if_true]
      have mm : ∀ (b1 b2 : Bool) (x y z : Nat), z ∈ (if b2 then x :: (if b1 then y :: [z] else [z]) else (if b1 then y :: [z] else [z])) := by
        intro b1 b2 x y z; cases b1 <;> cases b2 <;> simp
      exact mm _ _ _ _ _
theorem ofD_zeros : ∀ n : Nat, ofD (List.replicate n 0) = 0
  | 0 => rfl
  | n + 1 => by rw [List.replicate_succ]; unfold ofD; rw [ofD_zeros n]
theorem ofD_app : ∀ (xs ys : List Nat), ofD (xs ++ ys) = ofD xs + 256 ^ xs.length * ofD ys
  | [], ys => by simp [ofD]
  | x :: xs, ys => by
    simp only [List.cons_append, ofD, ofD_app xs ys, List.length_cons, Nat.pow_succ]
    rw [Nat.mul_comm (256 ^ xs.length) 256, Nat.mul_assoc]
    omega
def start (half : Nat) (pcs : List Nat) : List (List Nat) := List.replicate half [] ++ pcs :: List.replicate half []
theorem sum_zeros : ∀ n : Nat, (List.replicate n 0).sum = 0
  | 0 => rfl
  | n + 1 => by rw [List.replicate_succ, List.sum_cons, sum_zeros n]
theorem Inv.start (hp : pcs.length = 2 * half) (h8 : ∀ x ∈ pcs, x < 8) : Inv half desc pcs 0 (start half pcs) := by
  refine ⟨by simp [Chip.start]; omega, by simp [Chip.start, hp, sum_zeros], ?_, fun θ => ?_⟩
  · intro r hr x hx
    unfold Chip.start at hr
    rcases List.mem_append.mp hr with h | h
    · rw [List.eq_of_mem_replicate h] at hx; cases hx
    · rcases List.mem_cons.mp h with rfl | h
      · exact h8 x hx
      · rw [List.eq_of_mem_replicate h] at hx; cases hx
  · have z : rowW (Pd desc θ) [] = 0 := rfl
    have hl := rowW_len (Pd desc θ) pcs
    have hc : codeOf (Pd desc θ) (Chip.start half pcs) = ini half (pcs.countP (Pd desc θ)) := by
      unfold codeOf Chip.start ini
      rw [List.map_append, List.map_replicate, List.map_cons, List.map_replicate, z, ofD_app, ofD_zeros, List.length_replicate, Nat.zero_add]
      congr 1
      show rowW (Pd desc θ) pcs + 256 * ofD (List.replicate half 0) = _
      rw [ofD_zeros]
      unfold rowW
      omega
    rw [hc]; exact .head _
def ends (half : Nat) (srt : List Nat) : List (List Nat) := (srt.take half).map (fun x => [x]) ++ [[]] ++ (srt.drop half).map (fun x => [x])
theorem count_idx {P : Nat → Bool} : ∀ {s : List Nat}, s.Pairwise (fun a b => P b = true → P a = true) → ∀ {i x : Nat}, s[i]? = some x → (P x = true ↔ i < s.countP P)
  | [], _, _, _, e => by simp at e
  | y :: s, hs, i, x, e => by
    rw [List.pairwise_cons] at hs
    cases hy : P y with
    | true =>
      rw [List.countP_cons_of_pos hy]
      cases i with
      | zero =>
        simp only [List.getElem?_cons_zero, Option.some.injEq] at e
        subst e
        simp [hy]
      | succ i =>
        simp only [List.getElem?_cons_succ] at e
        rw [count_idx hs.2 e]; omega
    | false =>
      have none : ∀ z ∈ s, ¬ P z = true := fun z hz h => by
        have := hs.1 z hz h
        rw [hy] at this; cases this
      have hx : P x = false := by
        cases i with
        | zero =>
          simp only [List.getElem?_cons_zero, Option.some.injEq] at e
          subst e; exact hy
        | succ i =>
          simp only [List.getElem?_cons_succ] at e
          simpa using none x (List.mem_of_getElem? e)
      have hc : s.countP P = 0 := List.countP_eq_zero.mpr none
      rw [List.countP_cons_of_neg (by simp [hy]), hc, hx]
      simp
theorem one16 (p : Prop) [Decidable p] : (if p then 1 else 16) < 256 := by split <;> omega
theorem Inv.fin (I : Inv half desc pcs (turns half) rows) (h2 : 2 ≤ half) (h4 : half ≤ 4) (hp : pcs.length = 2 * half) {srt : List Nat} (hperm : srt.Perm pcs) (hsrt : srt.Pairwise (fun a b => if desc then b ≤ a else a ≤ b)) : rows = ends half srt := by
  have hsl : srt.length = 2 * half := by rw [hperm.length_eq, hp]
  have hpw : ∀ θ, srt.Pairwise (fun a b => Pd desc θ b = true → Pd desc θ a = true) := fun θ => by
    refine hsrt.imp ?_
    intro a b h
    unfold Pd
    cases desc
    · simp only [Bool.false_eq_true, if_false, decide_eq_true_eq] at h ⊢; omega
    · simp only [if_true, decide_eq_true_eq] at h ⊢; omega
  have hcode : ∀ θ, rows.map (rowW (Pd desc θ)) = finD half (srt.countP (Pd desc θ)) := fun θ => by
    rw [hperm.countP_eq]
    refine ofD_inj _ _ (by rw [List.length_map, I.len]; simp [finD]) (I.figs h4 _) (fun d hd => ?_) ?_
    · unfold finD at hd
      obtain ⟨s, _, rfl⟩ := List.mem_map.mp hd
      split
      · decide
      · exact one16 _
    · exact check_fin _ _ (chk_all h2 h4 (z := pcs.countP (Pd desc θ)) (by rw [← hp]; exact List.countP_le_length)) _ (I.lay θ)
  have hel : (ends half srt).length = 2 * half + 1 := by simp [ends, hsl]; omega
  apply List.ext_getElem?
  intro s
  rcases Nat.lt_or_ge s (2 * half + 1) with hs | hs
  case inr => rw [List.getElem?_eq_none (by rw [I.len]; omega), List.getElem?_eq_none (by rw [hel]; omega)]
  have hsr : s < rows.length := by rw [I.len]; exact hs
  have er := List.getElem?_eq_getElem hsr
  generalize hq : rows[s] = q at er
  rw [er]
  have fig : ∀ θ, rowW (Pd desc θ) q = if s = half then 0 else if (if s < half then s else s - 1) < srt.countP (Pd desc θ) then 1 else 16 := fun θ => by
    have h := congrArg (fun l => l[s]?) (hcode θ)
    simp only [List.getElem?_map, er, Option.map_some] at h
    unfold finD at h
    rw [List.getElem?_map, List.getElem?_range hs] at h
    simpa using h
  have hql : q.length ≤ 8 := by have := I.row_le (List.mem_of_getElem? er); omega
  have hk : ∀ θ, q.countP (Pd desc θ) + q.countP (fun x => !Pd desc θ x) = q.length := fun θ => rowW_len _ q
  by_cases hm : s = half
  · have f := fig 0
    rw [if_pos hm] at f
    have h0 := hk 0
    unfold rowW at f
    have : q = [] := List.eq_nil_of_length_eq_zero (by omega)
    subst this hm
    have e : ((srt.take s).map (fun x => [x])).length = s := by simp; omega
    unfold ends
    rw [List.append_assoc, List.getElem?_append_right (by omega), e]
    simp
  · obtain ⟨idx, hidx⟩ : ∃ idx, idx = if s < half then s else s - 1 := ⟨_, rfl⟩
    have hil : idx < srt.length := by rw [hsl, hidx]; split <;> omega
    have ei := List.getElem?_eq_getElem hil
    generalize hy : srt[idx] = y at ei
    have fig' : ∀ θ, rowW (Pd desc θ) q = if idx < srt.countP (Pd desc θ) then 1 else 16 := fun θ => by
      have := fig θ
      rw [if_neg hm, ← hidx] at this
      exact this
    have one : q.length = 1 := by
      have f := fig' 0
      have h0 := hk 0
      unfold rowW at f
      split at f <;> omega
    obtain ⟨x, rfl⟩ := List.length_eq_one_iff.mp one
    have same : ∀ θ, Pd desc θ x = true ↔ Pd desc θ y = true := fun θ => by
      rw [count_idx (hpw θ) ei]
      have f := fig' θ
      rw [show rowW (Pd desc θ) [x] = wt (Pd desc θ) x from by have := rowW_app (Pd desc θ) [] x; rw [show rowW (Pd desc θ) [] = 0 from rfl, Nat.zero_add] at this; exact this] at f
      rcases wt_eq (Pd desc θ) x with ⟨p, e⟩ | ⟨p, e⟩ <;> rw [e] at f <;> rw [p]
      · refine ⟨fun _ => ?_, fun _ => rfl⟩
        apply Classical.byContradiction
        intro n
        rw [if_neg n] at f; cases f
      · refine ⟨fun h => (nomatch h), fun n => ?_⟩
        rw [if_pos n] at f; cases f
    have exy : x = y := by
      unfold Pd at same
      cases desc
      · have s1 := same (x + 1)
        have s2 := same (y + 1)
        simp only [Bool.false_eq_true, if_false, decide_eq_true_eq] at s1 s2
        omega
      · have s1 := same x
        have s2 := same y
        simp only [if_true, decide_eq_true_eq] at s1 s2
        omega
    subst exy
    have e : ((srt.take half).map (fun x => [x])).length = half := by simp; omega
    unfold ends
    by_cases hlt : s < half
    · rw [if_pos hlt] at hidx
      subst hidx
      rw [List.append_assoc, List.getElem?_append_left (by omega), List.getElem?_map, List.getElem?_take_of_lt hlt, ei]; rfl
    · rw [if_neg hlt] at hidx
      obtain ⟨m, hm'⟩ : ∃ m, s = half + 1 + m := ⟨s - half - 1, by omega⟩
      subst hm'
      rw [List.getElem?_append_right (by simp only [List.length_append, e, List.length_cons, List.length_nil]; omega), List.length_append, e]
      simp only [List.length_cons, List.length_nil, Nat.zero_add]
      rw [show half + 1 + m - (half + 1) = m by omega, List.getElem?_map, List.getElem?_drop, show half + m = idx by omega, ei]; rfl
end Chip
end Mine
namespace Mine
open PySem PySem.W PySem.W.X PyProof.Rows
open PySem.Builtin PySem.SeqAt
set_option maxHeartbeats 0
variable {w : World} {A : Around} {R : Result → Shared → Prop} {h : Heap} {g : Array GenState} {dr : Drawn} {tk : Nat} {os : OsState}
theorem delitem_specI {prog : Program} {l : Addr} {qs : List Addr} {n : Nat} {i : Int} {t : Tok} (m : Nat) (hi : i = (m : Nat)) (hl : h.get? l = some (lstO (qs.map .ref) n)) (hm : m < qs.length) (hs : qs.length ≤ 1000)
    (k : ∀ h' n', Kp [l] h h' → h'.get? l = some (lstO ((qs.eraseIdx m).map .ref) n') → R (.ok (.ret .none)) ⟨h', g, dr, tk, os⟩) :
    codeAny (model prog w) A (.call (.builtin "list.__delitem__") ⟨[.ref l, .int i t], []⟩) R ⟨h, g, dr, tk, os⟩ := by
  subst hi
  refine delitem_spec hl (by simpa using hm) (by simpa using hs) ?_
  intro h' n' K e
  refine k h' n' K ?_
  rw [e, Chip.map_eraseIdx']
theorem one1 {P : Nat × Obj → Prop} {a : Nat × Obj} (h1 : P a) : ∀ u ∈ [a], P u := by
  simp only [List.forall_mem_cons]; exact ⟨h1, by simp⟩
theorem turn_h {E : Value → Shared → Prop} {Q : Flow → Shared → Prop} {F Tb NL l1 hn qa qb sd : Addr} {H : Nat → Int} {K : Nat → Tok} {k nu ld en n ra rb kh : Nat} {u1 u2 u3 u4 u5 u6 u7 : Tok} {hs : List Addr}
    (hA : A.handled = none) (hd : A.depth + 40 < recursionLimit) (G : Gd w h) (aF : At w h F (frL H K (turn5 k nu ld n u1 u2 u3 u4 u5 u6 u7 Tb NL l1 hn qa qb sd ra rb) en)) (ah : At w h hn (lstO (hs.map .ref) kh))
    (hij : tI n nu ≤ tJ n nu) (hj : tJ n nu - tI n nu < hs.length) (h1 : 1 < hs.length) (hq : hs.length ≤ 100)
    (k' : ∀ h' tk' kh', Kp [hn] h h' → Gd w h' → At w h' hn (lstO (((hs.eraseIdx (tJ n nu - tI n nu)).eraseIdx 0).map .ref) kh') → wpAny (model pw w) A (execs ((B171 w).drop 13) (E171 w F)) Q E ⟨h', g, dr, tk', os⟩) :
    wpAny (model pw w) A (execs ((B171 w).drop 11) (E171 w F)) Q E ⟨h, g, dr, tk, os⟩ := by
  obtain ⟨Z, D⟩ : ∃ Z, Rep (KTw w) h [F, hn] h [(F, frL H K (turn5 k nu ld n u1 u2 u3 u4 u5 u6 u7 Tb NL l1 hn qa qb sd ra rb) en), (hn, lstO (hs.map .ref) kh)] Z := Rep.initC (T := [(F, frL H K (turn5 k nu ld n u1 u2 u3 u4 u5 u6 u7 Tb NL l1 hn qa qb sd ra rb) en), (hn, lstO (hs.map .ref) kh)]) G (oc aF (oc ah on)) (by kernel_rfl)
  refine atCut 2 ?_
  refine top_execs (R := fun _ _ => True) ?_
  intro θ
  refine eng 28 105723667832503197833615109766690719068742620647280528923203469312 (by exact hA) D (by kernel_rfl) ?_
  intro χ1 h1 D1
  refine enterD 0 154 0 D1 (by kernel_rfl) (by omega) ?_
  refine eng 9 55556406102770843648 (by exact hA) D1 (by kernel_rfl) ?_
  intro χ2 h2 D2
  refine hook2 (fun u v => .call (.builtin "list.__delitem__") ⟨[.ref hn, .int ((tJ n nu : Nat) - (tI n nu : Nat)) v], []⟩) (by kernel_rfl) ?_
  intro x1 y1
  refine delitem_specI (tJ n nu - tI n nu) (by omega) (D2.at_ (a := hn) (o := lstO (hs.map .ref) kh) 2 (by kernel_rfl)).1 hj (by omega) ?_
  intro h3 n3 K3 e3
  refine Exists.elim ((D2.turn (j := 2) (x := (hn, lstO (hs.map .ref) kh)) (by kernel_rfl) K3 e3).ex) ?_
  intro Z3 D3
  refine eng 22 375605920881494618277028187118172010724489047310336 (by exact hA) D3 (by kernel_rfl) ?_
  intro χ4 h4 D4
  refine enterD 0 154 0 D4 (by kernel_rfl) (by omega) ?_
  refine eng 9 74075207770518323200 (by exact hA) D4 (by kernel_rfl) ?_
  intro χ5 h5 D5
  refine hook2 (fun u v => .call (.builtin "list.__delitem__") ⟨[.ref hn, .int 0 v], []⟩) (by kernel_rfl) ?_
  intro x2 y2
  have hl2 : (hs.eraseIdx (tJ n nu - tI n nu)).length = hs.length - 1 := by rw [List.length_eraseIdx, if_pos hj]
  refine delitem_specI 0 rfl (D5.at_ (a := hn) (o := lstO ((hs.eraseIdx (tJ n nu - tI n nu)).map .ref) n3) 3 (by kernel_rfl)).1 (by omega) (by omega) ?_
  intro h6 n6 K6 e6
  refine Exists.elim ((D5.turn (j := 3) (x := (hn, lstO ((hs.eraseIdx (tJ n nu - tI n nu)).map .ref) n3)) (by kernel_rfl) K6 e6).ex) ?_
  intro Z6 D6
  refine eng 2 0 (by exact hA) D6 (by kernel_rfl) ?_
  intro χ7 h7 D7
  refine finQ (f := .done .next) (by kernel_rfl) ?_
  have ah' := D7.at_ (a := hn) (o := lstO (((hs.eraseIdx (tJ n nu - tI n nu)).eraseIdx 0).map .ref) n6) 3 (by kernel_rfl)
  have K' : Kp [hn] h h7 := Rep.kpF 2 [true, false] D D7 (by kernel_rfl)
  exact k' h7 _ n6 K' D7.gd ah'
def foT : List Stmt → PySem.Expr
  | .For t _ _ _ _ :: _ => t
  | _ => noE
def foB : List Stmt → List Stmt
  | .For _ _ b _ _ :: _ => b
  | _ => []
def foO : List Stmt → List Stmt
  | .For _ _ _ o _ :: _ => o
  | _ => []
theorem Row.kpc {h h' : Heap} {ks : List Addr} {qs : List Addr} {cs : List (Str × Str)} (x : Row w h qs cs) (K : Kp ks h h') (hk : ∀ a ∈ ks, ∀ o, h.get? a = some o → o.cls ≠ .type "tuple") : Row w h' qs cs := by
  induction x with
  | nil => exact .nil
  | cons a _ ih =>
    obtain ⟨tx, ty, a⟩ := a
    exact .cons ⟨tx, ty, a.kp K fun q => hk _ q _ a.1 rfl⟩ ih
theorem Row.app {qs qs2 : List Addr} {cs cs2 : List (Str × Str)} (x : Row w h qs cs) (y : Row w h qs2 cs2) : Row w h (qs ++ qs2) (cs ++ cs2) := by
  induction x with
  | nil => exact y
  | cons a _ ih => exact .cons a ih
def Pz (n : Str) (pz : List (Str × Value)) : Prop := pz = [] ∨ ∃ v, pz = [(n, v)]
abbrev nPc : Str := Str.ofString "piece"
theorem push_loop {F P p d it Tb NL l1 hn qa qb sd : Addr} {k nu ld n ra rb kh nP : Nat} {u1 u2 u3 u4 u5 u6 u7 t1 t2 : Tok} {ps hs : List Addr} {hcs : List (Str × Str)} {x1 f : Int}
    (hA : A.handled = none) (hd : A.depth + 40 < recursionLimit) (hPk : ps[k]? = some p) (hps : ps.length ≤ 100) :
    ∀ (rest : List Addr) (i : Nat) (h : Heap) (tk : Nat) (pz : List (Str × Value)) (H : Nat → Int) (K : Nat → Tok) (en n1 : Nat) (qs : List Addr) (cs : List (Str × Str)) (ti : Tok), hs.drop i = rest → Pz nPc pz → Gd w h →
      At w h F (frL H K (turn5 k nu ld n u1 u2 u3 u4 u5 u6 u7 Tb NL l1 hn qa qb sd ra rb ++ pz) en) → At w h (F + 1) (cellO (.ref P)) → At w h P (lstO (ps.map .ref) nP) → At w h p (accO d qs n1) → At w h d (dctO x1 t1 f t2) → At w h hn (lstO (hs.map .ref) kh) → At w h it (liO (.ref hn) (.int i ti)) →
      Row w h qs cs → Row w h hs hcs → qs.length + rest.length ≤ 100 →
      (∀ h' tk' pz' H' K' en' n1' qs', Kp [F, p, it] h h' → Gd w h' → Pz nPc pz' → At w h' F (frL H' K' (turn5 k nu ld n u1 u2 u3 u4 u5 u6 u7 Tb NL l1 hn qa qb sd ra rb ++ pz') en') → At w h' p (accO d qs' n1') → Row w h' qs' (cs ++ hcs.drop i) → R (.ok .next) ⟨h', g, dr, tk', os⟩) →
      codeAny (model pw w) A (.forLoop (foT ((B171 w).drop 13)) (.ref it) (foB ((B171 w).drop 13)) (foO ((B171 w).drop 13)) (E171 w F)) R ⟨h, g, dr, tk, os⟩ := by
  intro rest
  induction rest with
  | nil =>
    intro i h tk pz H K en n1 qs cs ti hr hpz G aF aC aP ap ad ah aI rq rh hsz k'
    obtain ⟨Z, D⟩ : ∃ Z, Rep (KTw w) h [it] h [(it, liO (.ref hn) (.int i ti))] Z := Rep.initC (T := [(it, liO (.ref hn) (.int i ti))]) G (oc aI on) (by kernel_rfl)
    refine Mine.start (Q := fun _ _ => True) (E := fun _ _ => True) ?_
    refine eng 2 256 (by exact hA) D (by kernel_rfl) ?_
    intro χ1 h1 D1
    refine hook (c' := .call (.builtin "list_iterator.__next__") ⟨[.ref it], []⟩) (by kernel_rfl) ?_
    have hi : hs.length ≤ i := List.drop_eq_nil_iff.mp hr
    have hci : hcs.drop i = [] := List.drop_eq_nil_iff.mpr (by rw [← rh.length]; exact hi)
    have K1 : Kp [] h h1 := Rep.kpF 0 [true] D D1 (by kernel_rfl)
    refine li_next_none (i := i) (src := hn) (ti := ti) (xs := (hs.map Value.ref).toArray) (n := kh) (so := lstO (hs.map .ref) kh) (ac_handled hA) D1.gd (D1.at_ 0 (by kernel_rfl)) (K1.2 _ _ ah.1 (nin0 _)) rfl (by simp [hi]) ?_
    intro h2 tk2 e t K2 a2 ae he
    refine Exists.elim ((D1.turnPlus (j := 0) (x := (it, liO (.ref hn) (.int i ti))) (by kernel_rfl) K2 a2.1 ae he).ex) ?_
    intro Z2 D2
    refine eng 2 1 (by exact hA) D2 (by kernel_rfl) ?_
    intro χ3 h3 D3
    refine fin (f := .next) (by kernel_rfl) ?_
    have K3 : Kp [it] h h3 := D3.keep
    have nk : ∀ a ∈ [it], ∀ o, h.get? a = some o → o.cls ≠ .type "tuple" := by
      simp only [List.forall_mem_cons]
      refine ⟨fun o e => ?_, by simp⟩
      rw [aI.1] at e; cases e; simp
    refine k' h3 _ pz H K en n1 qs (K3.weak (by simp)) D3.gd hpz (aF.kp K3 (nin1 (ne_of_cls aF.1 aI.1 (by kernel_rfl)))) (ap.kp K3 (nin1 (ne_of_cls ap.1 aI.1 (by kernel_rfl)))) ?_
    rw [hci, List.append_nil]
    exact rq.kpc K3 nk
  | cons q rest ih =>
    intro i h tk pz H K en n1 qs cs ti hr hpz G aF aC aP ap ad ah aI rq rh hsz k'
    have hv : (hs.map Value.ref).toArray[i]? = some (.ref q) := by
      have := List.head?_drop (l := hs) (i := i)
      rw [hr] at this
      simp [← this]
    have hr' : hs.drop (i + 1) = rest := by rw [← List.drop_drop, hr]; rfl
    obtain ⟨c, ec, tq⟩ := rh.get (i := i) (q := q) (by have := List.head?_drop (l := hs) (i := i); rw [hr] at this; simpa using this.symm)
    obtain ⟨s1, s2, tq⟩ := tq
    have nk : ∀ a ∈ [F, p, it], ∀ o, h.get? a = some o → o.cls ≠ .type "tuple" := by
      simp only [List.forall_mem_cons]
      refine ⟨fun o e => ?_, fun o e => ?_, fun o e => ?_, by simp⟩
      · rw [aF.1] at e; cases e; simp
      · rw [ap.1] at e; cases e; simp
      · rw [aI.1] at e; cases e; simp
    have done : ∀ h6 tk6 v H6 K6' en6 n6 q6 ti6, Kp [F, p, it] h h6 → Gd w h6 → At w h6 F (frL H6 K6' (turn5 k nu ld n u1 u2 u3 u4 u5 u6 u7 Tb NL l1 hn qa qb sd ra rb ++ [(nPc, v)]) en6) → At w h6 (F + 1) (cellO (.ref P)) → At w h6 P (lstO (ps.map .ref) nP) → At w h6 p (accO d (qs ++ [q6]) n6) → At w h6 d (dctO x1 t1 f t2) → At w h6 it (liO (.ref hn) (.int (i + 1 : Nat) ti6)) → Tup w h6 q6 c →
        codeAny (model pw w) A (.forLoop (foT ((B171 w).drop 13)) (.ref it) (foB ((B171 w).drop 13)) (foO ((B171 w).drop 13)) (E171 w F)) R ⟨h6, g, dr, tk6, os⟩ := by
      intro h6 tk6 v H6 K6' en6 n6 q6 ti6 K6 G6 bF bC bP bp bd bI bq
      have bh : At w h6 hn (lstO (hs.map .ref) kh) := ah.kp K6 (nin3 (ne_of_cls ah.1 aF.1 (by kernel_rfl)) (ne_of_cls ah.1 ap.1 (by kernel_rfl)) (ne_of_cls ah.1 aI.1 (by kernel_rfl)))
      refine ih (i + 1) h6 tk6 [(nPc, v)] H6 K6' en6 n6 (qs ++ [q6]) (cs ++ [c]) ti6 hr' (.inr ⟨v, rfl⟩) G6 bF bC bP bp bd bh bI ((rq.kpc K6 nk).app (.cons bq .nil)) (rh.kpc K6 nk) (by simp at hsz ⊢; omega) ?_
      intro h' tk' pz' H' K' en' n1' qs' Kx Gx pzx cF cp cR
      refine k' h' tk' pz' H' K' en' n1' qs' (K6.trans Kx fun _ _ _ q => q) Gx pzx cF cp ?_
      have e : cs ++ hcs.drop i = cs ++ [c] ++ hcs.drop (i + 1) := by
        have hl := (List.getElem?_eq_some_iff.mp ec).1
        have e2 := (List.getElem?_eq_some_iff.mp ec).2
        rw [List.drop_eq_getElem_cons hl, e2]; simp
      rw [e]; exact cR
    rcases hpz with rfl | ⟨v0, rfl⟩
    · skip
      obtain ⟨Z, D⟩ : ∃ Z, Rep (KTw w) h [F, F + 1, P, p, d, it, q] h [(F, frL H K (turn5 k nu ld n u1 u2 u3 u4 u5 u6 u7 Tb NL l1 hn qa qb sd ra rb ++ []) en), (F + 1, cellO (.ref P)), (P, lstO (ps.map .ref) nP), (p, accO d qs n1), (d, dctO x1 t1 f t2), (it, liO (.ref hn) (.int i ti)), (q, tupO c.1 s1 c.2 s2)] Z := Rep.initC (T := [(F, frL H K (turn5 k nu ld n u1 u2 u3 u4 u5 u6 u7 Tb NL l1 hn qa qb sd ra rb ++ []) en), (F + 1, cellO (.ref P)), (P, lstO (ps.map .ref) nP), (p, accO d qs n1), (d, dctO x1 t1 f t2), (it, liO (.ref hn) (.int i ti)), (q, tupO c.1 s1 c.2 s2)]) G (oc aF (oc aC (oc aP (oc ap (oc ad (oc aI (oc tq on))))))) (by kernel_rfl)
      refine Mine.start (Q := fun _ _ => True) (E := fun _ _ => True) ?_
      refine eng 2 1536 (by exact hA) D (by kernel_rfl) ?_
      intro χ1 h1 D1
      refine hook (c' := .call (.builtin "list_iterator.__next__") ⟨[.ref it], []⟩) (by kernel_rfl) ?_
      have K1 : Kp [] h h1 := Rep.kpF 0 [true, true, true, true, true, true, true] D D1 (by kernel_rfl)
      refine li_next_some (i := i) (src := hn) (ti := ti) (v := .ref q) (xs := (hs.map Value.ref).toArray) (n := kh) (so := lstO (hs.map .ref) kh) (ac_handled hA) D1.gd (D1.at_ 5 (by kernel_rfl)) (K1.2 _ _ ah.1 (nin0 _)) rfl hv ?_
      intro h2 tk2 K2 a2
      refine Exists.elim ((D1.turn (j := 5) (x := (it, liO (.ref hn) (.int i ti))) (by kernel_rfl) K2 a2.1).ex) ?_
      intro Z2 D2
      refine eng 16 4003321725468657511162596423404355584 (by exact hA) D2 (by kernel_rfl) ?_
      intro χ3 h3 D3
      refine hook2 (fun u v => .call (.builtin "list.__getitem__") ⟨[.ref P, .int (k : Nat) v], []⟩) (by kernel_rfl) ?_
      intro x3 y3
      refine getitem_spec (v := .ref p) (vs := ps.map Value.ref) (n := nP) (D3.at_ (a := P) (o := lstO (ps.map .ref) nP) 2 (by kernel_rfl)).1 (get_map hPk) (by simp; omega) ?_
      refine eng 43 58406786730354041000679198117205731834845741314648339952809630094948380322252703649850483278848 (by exact hA) D3 (by kernel_rfl) ?_
      intro χ4 h4 D4
      refine hook (c' := .call (.ref 45) ⟨[.ref p, .str c.1 s1, .str c.2 s2], []⟩) (by kernel_rfl) ?_
      refine push_spec (d := d) (qs := qs) (n := n1) (f := f) (hs := x1) (tk1 := t1) (tk2 := t2) (ac_handled hA) (depL (b := A.depth) 0 (by kernel_rfl) hd rfl) D4.gd (D4.at_ (a := p) (o := accO d qs n1) 3 (by kernel_rfl)) (D4.at_ (a := d) (o := dctO x1 t1 f t2) 4 (by kernel_rfl)) (by omega) ?_
      intro h5 tk5 q5 n5 K5 aq5 fq5 ap5
      refine Exists.elim ((D4.turnPlus (j := 3) (x := (p, accO d qs n1)) (by kernel_rfl) K5 ap5.1 aq5 fq5).ex) ?_
      intro Z5 D5
      refine eng 1 0 (by exact hA) D5 (by kernel_rfl) ?_
      intro χ6 h6 D6
      refine againC (c' := .forLoop (foT ((B171 w).drop 13)) (.ref it) (foB ((B171 w).drop 13)) (foO ((B171 w).drop 13)) (E171 w F)) (c := .forLoop (foT ((B171 w).drop 13)) (.ref it) (foB ((B171 w).drop 13)) (foO ((B171 w).drop 13)) (E171 w F)) (by kernel_rfl) ?_
      have K6 : Kp [F, p, it] h h6 := Rep.kpF 1 [false, true, true, false, true, false, true] D D6 (by kernel_rfl)
      have bF := D6.at_ (a := F) (o := frL (eHi (objAt χ6.T 1)) (eKi (objAt χ6.T 1)) (turn5 k nu ld n u1 u2 u3 u4 u5 u6 u7 Tb NL l1 hn qa qb sd ra rb ++ [(nPc, .ref q)]) (eNd (objAt χ6.T 1))) 1 (by kernel_rfl)
      have bC := D6.at_ (a := F + 1) (o := cellO (.ref P)) 2 (by kernel_rfl)
      have bP := D6.at_ (a := P) (o := lstO (ps.map .ref) nP) 3 (by kernel_rfl)
      have bp := D6.at_ (a := p) (o := accO d (qs ++ [q5]) n5) 4 (by kernel_rfl)
      have bd := D6.at_ (a := d) (o := dctO x1 t1 f t2) 5 (by kernel_rfl)
      have bI := D6.at_ (a := it) (o := liO (.ref hn) (.int (i + 1 : Nat) 0)) 6 (by kernel_rfl)
      have bq := D6.at_ (a := q5) (o := tupO c.1 s1 c.2 s2) 0 (by kernel_rfl)
      exact done h6 _ _ _ _ _ n5 q5 0 K6 D6.gd bF bC bP bp bd bI ⟨_, _, bq⟩
    · skip
      obtain ⟨Z, D⟩ : ∃ Z, Rep (KTw w) h [F, F + 1, P, p, d, it, q] h [(F, frL H K (turn5 k nu ld n u1 u2 u3 u4 u5 u6 u7 Tb NL l1 hn qa qb sd ra rb ++ [(nPc, v0)]) en), (F + 1, cellO (.ref P)), (P, lstO (ps.map .ref) nP), (p, accO d qs n1), (d, dctO x1 t1 f t2), (it, liO (.ref hn) (.int i ti)), (q, tupO c.1 s1 c.2 s2)] Z := Rep.initC (T := [(F, frL H K (turn5 k nu ld n u1 u2 u3 u4 u5 u6 u7 Tb NL l1 hn qa qb sd ra rb ++ [(nPc, v0)]) en), (F + 1, cellO (.ref P)), (P, lstO (ps.map .ref) nP), (p, accO d qs n1), (d, dctO x1 t1 f t2), (it, liO (.ref hn) (.int i ti)), (q, tupO c.1 s1 c.2 s2)]) G (oc aF (oc aC (oc aP (oc ap (oc ad (oc aI (oc tq on))))))) (by kernel_rfl)
      refine Mine.start (Q := fun _ _ => True) (E := fun _ _ => True) ?_
      refine eng 2 1536 (by exact hA) D (by kernel_rfl) ?_
      intro χ1 h1 D1
      refine hook (c' := .call (.builtin "list_iterator.__next__") ⟨[.ref it], []⟩) (by kernel_rfl) ?_
      have K1 : Kp [] h h1 := Rep.kpF 0 [true, true, true, true, true, true, true] D D1 (by kernel_rfl)
      refine li_next_some (i := i) (src := hn) (ti := ti) (v := .ref q) (xs := (hs.map Value.ref).toArray) (n := kh) (so := lstO (hs.map .ref) kh) (ac_handled hA) D1.gd (D1.at_ 5 (by kernel_rfl)) (K1.2 _ _ ah.1 (nin0 _)) rfl hv ?_
      intro h2 tk2 K2 a2
      refine Exists.elim ((D1.turn (j := 5) (x := (it, liO (.ref hn) (.int i ti))) (by kernel_rfl) K2 a2.1).ex) ?_
      intro Z2 D2
      refine eng 16 4003321725468657511162596423404355584 (by exact hA) D2 (by kernel_rfl) ?_
      intro χ3 h3 D3
      refine hook2 (fun u v => .call (.builtin "list.__getitem__") ⟨[.ref P, .int (k : Nat) v], []⟩) (by kernel_rfl) ?_
      intro x3 y3
      refine getitem_spec (v := .ref p) (vs := ps.map Value.ref) (n := nP) (D3.at_ (a := P) (o := lstO (ps.map .ref) nP) 2 (by kernel_rfl)).1 (get_map hPk) (by simp; omega) ?_
      refine eng 43 58406786730354041000679198117205731834845741314648339952809630094948380322252703649850483278848 (by exact hA) D3 (by kernel_rfl) ?_
      intro χ4 h4 D4
      refine hook (c' := .call (.ref 45) ⟨[.ref p, .str c.1 s1, .str c.2 s2], []⟩) (by kernel_rfl) ?_
      refine push_spec (d := d) (qs := qs) (n := n1) (f := f) (hs := x1) (tk1 := t1) (tk2 := t2) (ac_handled hA) (depL (b := A.depth) 0 (by kernel_rfl) hd rfl) D4.gd (D4.at_ (a := p) (o := accO d qs n1) 3 (by kernel_rfl)) (D4.at_ (a := d) (o := dctO x1 t1 f t2) 4 (by kernel_rfl)) (by omega) ?_
      intro h5 tk5 q5 n5 K5 aq5 fq5 ap5
      refine Exists.elim ((D4.turnPlus (j := 3) (x := (p, accO d qs n1)) (by kernel_rfl) K5 ap5.1 aq5 fq5).ex) ?_
      intro Z5 D5
      refine eng 1 0 (by exact hA) D5 (by kernel_rfl) ?_
      intro χ6 h6 D6
      refine againC (c' := .forLoop (foT ((B171 w).drop 13)) (.ref it) (foB ((B171 w).drop 13)) (foO ((B171 w).drop 13)) (E171 w F)) (c := .forLoop (foT ((B171 w).drop 13)) (.ref it) (foB ((B171 w).drop 13)) (foO ((B171 w).drop 13)) (E171 w F)) (by kernel_rfl) ?_
      have K6 : Kp [F, p, it] h h6 := Rep.kpF 1 [false, true, true, false, true, false, true] D D6 (by kernel_rfl)
      have bF := D6.at_ (a := F) (o := frL (eHi (objAt χ6.T 1)) (eKi (objAt χ6.T 1)) (turn5 k nu ld n u1 u2 u3 u4 u5 u6 u7 Tb NL l1 hn qa qb sd ra rb ++ [(nPc, .ref q)]) (eNd (objAt χ6.T 1))) 1 (by kernel_rfl)
      have bC := D6.at_ (a := F + 1) (o := cellO (.ref P)) 2 (by kernel_rfl)
      have bP := D6.at_ (a := P) (o := lstO (ps.map .ref) nP) 3 (by kernel_rfl)
      have bp := D6.at_ (a := p) (o := accO d (qs ++ [q5]) n5) 4 (by kernel_rfl)
      have bd := D6.at_ (a := d) (o := dctO x1 t1 f t2) 5 (by kernel_rfl)
      have bI := D6.at_ (a := it) (o := liO (.ref hn) (.int (i + 1 : Nat) 0)) 6 (by kernel_rfl)
      have bq := D6.at_ (a := q5) (o := tupO c.1 s1 c.2 s2) 0 (by kernel_rfl)
      exact done h6 _ _ _ _ _ n5 q5 0 K6 D6.gd bF bC bP bp bd bI ⟨_, _, bq⟩
theorem Rep.turnM {kt : KT} {h₀ h h' : Heap} {ks ks' : List Addr} {T : DT} {Z : Nat} (D : Rep kt h₀ ks h T Z) (us : List (Nat × Addr × Obj)) (K : Kp ks' h h') (hl : us.all (fun u => Nat.blt u.1 T.length) = true) (ea : us.map (fun u => adrAt T u.1) = us.map (·.2.1)) (ek : ks' = us.map (·.2.1))
    (own : ∀ u ∈ us, h'.get? u.2.1 = some u.2.2) : ∃ Z', Rep kt h₀ ks h' (setAll T (us.map fun u => (u.1, u.2.2))) Z' := by
  refine D.turnL (us.map fun u => (u.1, u.2.2)) K ?_ ?_ ?_
  · rw [List.all_map]; exact hl
  · rw [ek, List.map_map, ← ea]; rfl
  · intro v hv
    obtain ⟨u, hu, rfl⟩ := List.mem_map.mp hv
    have : adrAt T u.1 = u.2.1 := by
      obtain ⟨i, hi, e⟩ := List.mem_iff_getElem.mp hu
      have := congrArg (fun l => l[i]?) ea
      simp only [List.getElem?_map, List.getElem?_eq_getElem hi, Option.map_some, e] at this
      exact Option.some.inj this
    rw [this]; exact own u hu
theorem all3m {P : Nat × Addr × Obj → Prop} {a b c : Nat × Addr × Obj} (h1 : P a) (h2 : P b) (h3 : P c) : ∀ u ∈ [a, b, c], P u := by
  simp only [List.forall_mem_cons]; exact ⟨h1, h2, h3, by simp⟩
theorem all2m {P : Nat × Addr × Obj → Prop} {a b : Nat × Addr × Obj} (h1 : P a) (h2 : P b) : ∀ u ∈ [a, b], P u := by
  simp only [List.forall_mem_cons]; exact ⟨h1, h2, by simp⟩
theorem turn_i {E : Value → Shared → Prop} {Q : Flow → Shared → Prop} {F P p d Tb NL l1 hn qa qb sd : Addr} {H : Nat → Int} {K : Nat → Tok} {k nu ld en n ra rb kh nP n1 : Nat} {u1 u2 u3 u4 u5 u6 u7 t1 t2 : Tok} {x1 f : Int} {qs ps hs : List Addr} {cs hcs : List (Str × Str)}
    (hA : A.handled = none) (hd : A.depth + 100 < recursionLimit) (G : Gd w h) (aF : At w h F (frL H K (turn5 k nu ld n u1 u2 u3 u4 u5 u6 u7 Tb NL l1 hn qa qb sd ra rb) en)) (aC : At w h (F + 1) (cellO (.ref P))) (aP : At w h P (lstO (ps.map .ref) nP)) (ap : At w h p (accO d qs n1)) (ad : At w h d (dctO x1 t1 f t2)) (ah : At w h hn (lstO (hs.map .ref) kh))
    (hPk : ps[k]? = some p) (hps : ps.length ≤ 100) (rq : Row w h qs cs) (rh : Row w h hs hcs) (hsz : qs.length + hs.length ≤ 100)
    (k' : ∀ h' tk' pz' H' K' en' n1' qs', Kp [F, p] h h' → Gd w h' → Pz nPc pz' → At w h' F (frL H' K' (turn5 k nu ld n u1 u2 u3 u4 u5 u6 u7 Tb NL l1 hn qa qb sd ra rb ++ pz') en') → At w h' p (accO d qs' n1') → Row w h' qs' (cs ++ hcs) → wpAny (model pw w) A (execs ((B171 w).drop 14) (E171 w F)) Q E ⟨h', g, dr, tk', os⟩) :
    wpAny (model pw w) A (execs ((B171 w).drop 13) (E171 w F)) Q E ⟨h, g, dr, tk, os⟩ := by
  obtain ⟨Z, D⟩ : ∃ Z, Rep (KTw w) h [F, p, hn] h [(F, frL H K (turn5 k nu ld n u1 u2 u3 u4 u5 u6 u7 Tb NL l1 hn qa qb sd ra rb) en), (p, accO d qs n1), (hn, lstO (hs.map .ref) kh)] Z := Rep.initC (T := [(F, frL H K (turn5 k nu ld n u1 u2 u3 u4 u5 u6 u7 Tb NL l1 hn qa qb sd ra rb) en), (p, accO d qs n1), (hn, lstO (hs.map .ref) kh)]) G (oc aF (oc ap (oc ah on))) (by kernel_rfl)
  refine atCut 1 ?_
  refine top_execs (R := fun _ _ => True) ?_
  intro θ
  refine eng 6 3311419850752 (by exact hA) D (by kernel_rfl) ?_
  intro χ1 h1 D1
  refine eng2 "special-get-raises" 1 0 1 0 (by exact hA) D1 (by kernel_rfl) ?_
  intro χ2 h2 D2
  refine eng 6 1099511628544 (by exact hA) D2 (by kernel_rfl) ?_
  intro χ3 h3 D3
  refine hook (c' := .forLoop (foT ((B171 w).drop 13)) (.ref (adrAt χ3.T 0)) (foB ((B171 w).drop 13)) (foO ((B171 w).drop 13)) (E171 w F)) (by kernel_rfl) ?_
  have K3 : Kp [] h h3 := Rep.kpF 1 [true, true, true] D D3 (by kernel_rfl)
  have bI := D3.at_ (a := adrAt χ3.T 0) (o := liO (.ref hn) (.int 0 0)) 0 (by kernel_rfl)
  refine push_loop (d := d) (x1 := x1) (f := f) (t1 := t1) (t2 := t2) (ps := ps) (nP := nP) (kh := kh) (hs := hs) (hcs := hcs) (ac_handled hA) (depL (b := A.depth) 0 (by kernel_rfl) hd rfl) hPk hps hs 0 h3 _ [] H K en n1 qs cs 0 rfl (.inl rfl) D3.gd (aF.kp K3 (nin0 _)) (aC.kp K3 (nin0 _)) (aP.kp K3 (nin0 _)) (ap.kp K3 (nin0 _)) (ad.kp K3 (nin0 _)) (ah.kp K3 (nin0 _)) bI (rq.kp0 K3) (rh.kp0 K3) hsz ?_
  intro h4 tk4 pz H4 K4' en4 n4 qs4 K4 G4 hpz bF bp br
  obtain ⟨oi, hoi⟩ := K4.1 _ _ bI.1
  refine Exists.elim (D3.turnM [(1, F, frL H4 K4' (turn5 k nu ld n u1 u2 u3 u4 u5 u6 u7 Tb NL l1 hn qa qb sd ra rb ++ pz) en4), (2, p, accO d qs4 n4), (0, adrAt χ3.T 0, oi)] K4 (by kernel_rfl) (by kernel_rfl) rfl (all3m bF.1 bp.1 hoi)) ?_
  intro Z4 D4
  refine finQ (f := .done .next) (by kernel_rfl) ?_
  have K5 : Kp [F, p] h h4 := Rep.kpF 1 [false, false, true] D D4 (by kernel_rfl)
  exact k' h4 _ pz H4 K4' en4 n4 qs4 K5 D4.gd hpz bF bp br
abbrev turn6 (k nu ld n : Nat) (u1 u2 u3 u4 u5 u6 u7 : Tok) (Tb NL l1 hn qa qb sd : Addr) (ra rb : Nat) (pz : List (Str × Value)) (ql qr : Addr) : List (Str × Value) := turn5 k nu ld n u1 u2 u3 u4 u5 u6 u7 Tb NL l1 hn qa qb sd ra rb ++ pz ++ ([("left", .ref ql), ("right", .ref qr)] : List (Str × Value))
theorem turn_j {E : Value → Shared → Prop} {Q : Flow → Shared → Prop} {F Tb NL l1 hn qa qb sd : Addr} {H : Nat → Int} {K : Nat → Tok} {k nu ld en n ra rb : Nat} {u1 u2 u3 u4 u5 u6 u7 : Tok} {pz : List (Str × Value)} {bs : List Bool} {sb : Bool}
    (hA : A.handled = none) (G : Gd w h) (hpz : Pz nPc pz) (aF : At w h F (frL H K (turn5 k nu ld n u1 u2 u3 u4 u5 u6 u7 Tb NL l1 hn qa qb sd ra rb ++ pz) en)) (as : At w h sd (lstO (bs.map .bool) 0)) (hb : bs[ld]? = some sb) (hbs : bs.length ≤ 10)
    (k' : ∀ h' tk' H' K' en', Kp [F] h h' → Gd w h' → At w h' F (frL H' K' (turn6 k nu ld n u1 u2 u3 u4 u5 u6 u7 Tb NL l1 hn qa qb sd ra rb pz (if sb then qa else qb) (if sb then qb else qa)) en') → wpAny (model pw w) A (execs ((B171 w).drop 15) (E171 w F)) Q E ⟨h', g, dr, tk', os⟩) :
    wpAny (model pw w) A (execs ((B171 w).drop 14) (E171 w F)) Q E ⟨h, g, dr, tk, os⟩ := by
  have hv : (bs.map Value.bool)[ld]? = some (.bool sb) := by simp [hb]
  have hl : (bs.map Value.bool).length ≤ 1000 := by simp; omega
  rcases hpz with rfl | ⟨v0, rfl⟩
  · skip
    obtain ⟨Z, D⟩ : ∃ Z, Rep (KTw w) h [F, sd] h [(F, frL H K (turn5 k nu ld n u1 u2 u3 u4 u5 u6 u7 Tb NL l1 hn qa qb sd ra rb ++ []) en), (sd, lstO (bs.map .bool) 0)] Z := Rep.initC (T := [(F, frL H K (turn5 k nu ld n u1 u2 u3 u4 u5 u6 u7 Tb NL l1 hn qa qb sd ra rb ++ []) en), (sd, lstO (bs.map .bool) 0)]) G (oc aF (oc as on)) (by kernel_rfl)
    refine atCut 1 ?_
    refine top_execs (R := fun _ _ => True) ?_
    intro θ
    refine eng 9 37038166289743413248 (by exact hA) D (by kernel_rfl) ?_
    intro χ1 h1 D1
    refine hook2 (fun u v => .call (.builtin "list.__getitem__") ⟨[.ref sd, .int (ld : Nat) v], []⟩) (by kernel_rfl) ?_
    intro x1 y1
    refine getitem_spec (v := .bool sb) (vs := bs.map Value.bool) (n := 0) (D1.at_ (a := sd) (o := lstO (bs.map .bool) 0) 1 (by kernel_rfl)).1 hv hl ?_
    cases sb
    · skip
      refine eng 11 1213666632842672057876480 (by exact hA) D1 (by kernel_rfl) ?_
      intro χ2 h2 D2
      refine eng2 "special-get-raises" 1 0 1 0 (by exact hA) D2 (by kernel_rfl) ?_
      intro χ3 h3 D3
      refine eng 55 217460971493240182129099278594838195086970494242568099719580334936308889982197685599177438974571915121879474713084592157041361152 (by exact hA) D3 (by kernel_rfl) ?_
      intro χ4 h4 D4
      refine finQ (f := .done .next) (by kernel_rfl) ?_
      exact k' h4 _ (eHi (objAt χ4.T 4)) (eKi (objAt χ4.T 4)) (eNd (objAt χ4.T 4)) (Rep.kpF 4 [false, true] D D4 (by kernel_rfl)) D4.gd (D4.at_ 4 (by kernel_rfl))
    · skip
      refine eng 11 1213666632842672057876480 (by exact hA) D1 (by kernel_rfl) ?_
      intro χ2 h2 D2
      refine eng2 "special-get-raises" 1 0 1 0 (by exact hA) D2 (by kernel_rfl) ?_
      intro χ3 h3 D3
      refine eng 55 217460971493240182129099278594838195086970494242568099719580334936308889982197685599177438974571915121879474713084592157041361152 (by exact hA) D3 (by kernel_rfl) ?_
      intro χ4 h4 D4
      refine finQ (f := .done .next) (by kernel_rfl) ?_
      exact k' h4 _ (eHi (objAt χ4.T 4)) (eKi (objAt χ4.T 4)) (eNd (objAt χ4.T 4)) (Rep.kpF 4 [false, true] D D4 (by kernel_rfl)) D4.gd (D4.at_ 4 (by kernel_rfl))
  · skip
    obtain ⟨Z, D⟩ : ∃ Z, Rep (KTw w) h [F, sd] h [(F, frL H K (turn5 k nu ld n u1 u2 u3 u4 u5 u6 u7 Tb NL l1 hn qa qb sd ra rb ++ [(nPc, v0)]) en), (sd, lstO (bs.map .bool) 0)] Z := Rep.initC (T := [(F, frL H K (turn5 k nu ld n u1 u2 u3 u4 u5 u6 u7 Tb NL l1 hn qa qb sd ra rb ++ [(nPc, v0)]) en), (sd, lstO (bs.map .bool) 0)]) G (oc aF (oc as on)) (by kernel_rfl)
    refine atCut 1 ?_
    refine top_execs (R := fun _ _ => True) ?_
    intro θ
    refine eng 9 37038166289743413248 (by exact hA) D (by kernel_rfl) ?_
    intro χ1 h1 D1
    refine hook2 (fun u v => .call (.builtin "list.__getitem__") ⟨[.ref sd, .int (ld : Nat) v], []⟩) (by kernel_rfl) ?_
    intro x1 y1
    refine getitem_spec (v := .bool sb) (vs := bs.map Value.bool) (n := 0) (D1.at_ (a := sd) (o := lstO (bs.map .bool) 0) 1 (by kernel_rfl)).1 hv hl ?_
    cases sb
    · skip
      refine eng 11 1213666632842672057876480 (by exact hA) D1 (by kernel_rfl) ?_
      intro χ2 h2 D2
      refine eng2 "special-get-raises" 1 0 1 0 (by exact hA) D2 (by kernel_rfl) ?_
      intro χ3 h3 D3
      refine eng 55 217460971493240182129099278594838195086970494242568099719580334936308889982197685599177438974571915121879474713084592157041361152 (by exact hA) D3 (by kernel_rfl) ?_
      intro χ4 h4 D4
      refine finQ (f := .done .next) (by kernel_rfl) ?_
      exact k' h4 _ (eHi (objAt χ4.T 4)) (eKi (objAt χ4.T 4)) (eNd (objAt χ4.T 4)) (Rep.kpF 4 [false, true] D D4 (by kernel_rfl)) D4.gd (D4.at_ 4 (by kernel_rfl))
    · skip
      refine eng 11 1213666632842672057876480 (by exact hA) D1 (by kernel_rfl) ?_
      intro χ2 h2 D2
      refine eng2 "special-get-raises" 1 0 1 0 (by exact hA) D2 (by kernel_rfl) ?_
      intro χ3 h3 D3
      refine eng 55 217460971493240182129099278594838195086970494242568099719580334936308889982197685599177438974571915121879474713084592157041361152 (by exact hA) D3 (by kernel_rfl) ?_
      intro χ4 h4 D4
      refine finQ (f := .done .next) (by kernel_rfl) ?_
      exact k' h4 _ (eHi (objAt χ4.T 4)) (eKi (objAt χ4.T 4)) (eNd (objAt χ4.T 4)) (Rep.kpF 4 [false, true] D D4 (by kernel_rfl)) D4.gd (D4.at_ 4 (by kernel_rfl))
theorem turn_k {E : Value → Shared → Prop} {Q : Flow → Shared → Prop} {F P p d Tb NL l1 hn qa qb sd ql qr : Addr} {H : Nat → Int} {K : Nat → Tok} {k nu ld en n ra rb nP n1 : Nat} {u1 u2 u3 u4 u5 u6 u7 t1 t2 : Tok} {pz : List (Str × Value)} {x1 f : Int} {qs ps : List Addr} {c : Str × Str}
    (hA : A.handled = none) (hd : A.depth + 100 < recursionLimit) (G : Gd w h) (hpz : Pz nPc pz) (aF : At w h F (frL H K (turn6 k nu ld n u1 u2 u3 u4 u5 u6 u7 Tb NL l1 hn qa qb sd ra rb pz ql qr) en)) (aC : At w h (F + 1) (cellO (.ref P))) (aP : At w h P (lstO (ps.map .ref) nP)) (ap : At w h p (accO d qs n1)) (ad : At w h d (dctO x1 t1 f t2)) (tq : Tup w h ql c)
    (hk : 1 ≤ k) (hPk : ps[k - 1]? = some p) (hps : ps.length ≤ 100) (hsz : qs.length ≤ 100)
    (k' : ∀ h' tk' n1' q', Kp [p] h h' → Gd w h' → At w h' p (accO d (qs ++ [q']) n1') → Tup w h' q' c → h.get? q' = none → wpAny (model pw w) A (execs ((B171 w).drop 16) (E171 w F)) Q E ⟨h', g, dr, tk', os⟩) :
    wpAny (model pw w) A (execs ((B171 w).drop 15) (E171 w F)) Q E ⟨h, g, dr, tk, os⟩ := by
  obtain ⟨s1, s2, tq⟩ := tq
  rcases hpz with rfl | ⟨v0, rfl⟩
  · skip
    obtain ⟨Z, D⟩ : ∃ Z, Rep (KTw w) h [F, F + 1, P, p, d, ql] h [(F, frL H K (turn6 k nu ld n u1 u2 u3 u4 u5 u6 u7 Tb NL l1 hn qa qb sd ra rb [] ql qr) en), (F + 1, cellO (.ref P)), (P, lstO (ps.map .ref) nP), (p, accO d qs n1), (d, dctO x1 t1 f t2), (ql, tupO c.1 s1 c.2 s2)] Z := Rep.initC (T := [(F, frL H K (turn6 k nu ld n u1 u2 u3 u4 u5 u6 u7 Tb NL l1 hn qa qb sd ra rb [] ql qr) en), (F + 1, cellO (.ref P)), (P, lstO (ps.map .ref) nP), (p, accO d qs n1), (d, dctO x1 t1 f t2), (ql, tupO c.1 s1 c.2 s2)]) G (oc aF (oc aC (oc aP (oc ap (oc ad (oc tq on)))))) (by kernel_rfl)
    refine atCut 1 ?_
    refine top_execs (R := fun _ _ => True) ?_
    intro θ
    refine eng 15 15637975488902980689876115668467712 (by exact hA) D (by kernel_rfl) ?_
    intro χ1 h1 D1
    refine hook2 (fun u v => .call (.builtin "list.__getitem__") ⟨[.ref P, .int (((k : Nat) : Int) - 1) v], []⟩) (by kernel_rfl) ?_
    intro y1 y2
    refine getitem_specI (v := .ref p) (vs := ps.map Value.ref) (n := nP) (k - 1) (by omega) (D1.at_ (a := P) (o := lstO (ps.map .ref) nP) 2 (by kernel_rfl)).1 (get_map hPk) (by simp; omega) ?_
    refine eng 43 50062960054589178000582422221471309913343433026484400705160781927625236832251016463832720606208 (by exact hA) D1 (by kernel_rfl) ?_
    intro χ2 h2 D2
    refine hook (c' := .call (.ref 45) ⟨[.ref p, .str c.1 s1, .str c.2 s2], []⟩) (by kernel_rfl) ?_
    refine push_spec (d := d) (qs := qs) (n := n1) (f := f) (hs := x1) (tk1 := t1) (tk2 := t2) (ac_handled hA) (depL (b := A.depth) 0 (by kernel_rfl) hd rfl) D2.gd (D2.at_ (a := p) (o := accO d qs n1) 3 (by kernel_rfl)) (D2.at_ (a := d) (o := dctO x1 t1 f t2) 4 (by kernel_rfl)) hsz ?_
    intro h5 tk5 q5 n5 K5 aq5 fq5 ap5
    refine Exists.elim ((D2.turnPlus (j := 3) (x := (p, accO d qs n1)) (by kernel_rfl) K5 ap5.1 aq5 fq5).ex) ?_
    intro Z5 D5
    refine eng 1 0 (by exact hA) D5 (by kernel_rfl) ?_
    intro χ6 h6 D6
    refine finQ (f := .done .next) (by kernel_rfl) ?_
    have K6 : Kp [p] h h6 := Rep.kpF 1 [true, true, true, false, true, true] D D6 (by kernel_rfl)
    have bp := D6.at_ (a := p) (o := accO d (qs ++ [q5]) n5) 4 (by kernel_rfl)
    have bq := D6.at_ (a := q5) (o := tupO c.1 s1 c.2 s2) 0 (by kernel_rfl)
    exact k' h6 _ n5 q5 K6 D6.gd bp ⟨_, _, bq⟩ (D2.keep.fresh fq5)
  · skip
    obtain ⟨Z, D⟩ : ∃ Z, Rep (KTw w) h [F, F + 1, P, p, d, ql] h [(F, frL H K (turn6 k nu ld n u1 u2 u3 u4 u5 u6 u7 Tb NL l1 hn qa qb sd ra rb [(nPc, v0)] ql qr) en), (F + 1, cellO (.ref P)), (P, lstO (ps.map .ref) nP), (p, accO d qs n1), (d, dctO x1 t1 f t2), (ql, tupO c.1 s1 c.2 s2)] Z := Rep.initC (T := [(F, frL H K (turn6 k nu ld n u1 u2 u3 u4 u5 u6 u7 Tb NL l1 hn qa qb sd ra rb [(nPc, v0)] ql qr) en), (F + 1, cellO (.ref P)), (P, lstO (ps.map .ref) nP), (p, accO d qs n1), (d, dctO x1 t1 f t2), (ql, tupO c.1 s1 c.2 s2)]) G (oc aF (oc aC (oc aP (oc ap (oc ad (oc tq on)))))) (by kernel_rfl)
    refine atCut 1 ?_
    refine top_execs (R := fun _ _ => True) ?_
    intro θ
    refine eng 15 15637975488902980689876115668467712 (by exact hA) D (by kernel_rfl) ?_
    intro χ1 h1 D1
    refine hook2 (fun u v => .call (.builtin "list.__getitem__") ⟨[.ref P, .int (((k : Nat) : Int) - 1) v], []⟩) (by kernel_rfl) ?_
    intro y1 y2
    refine getitem_specI (v := .ref p) (vs := ps.map Value.ref) (n := nP) (k - 1) (by omega) (D1.at_ (a := P) (o := lstO (ps.map .ref) nP) 2 (by kernel_rfl)).1 (get_map hPk) (by simp; omega) ?_
    refine eng 43 50062960054589178000582422221471309913343433026484400705160781927625236832251016463832720606208 (by exact hA) D1 (by kernel_rfl) ?_
    intro χ2 h2 D2
    refine hook (c' := .call (.ref 45) ⟨[.ref p, .str c.1 s1, .str c.2 s2], []⟩) (by kernel_rfl) ?_
    refine push_spec (d := d) (qs := qs) (n := n1) (f := f) (hs := x1) (tk1 := t1) (tk2 := t2) (ac_handled hA) (depL (b := A.depth) 0 (by kernel_rfl) hd rfl) D2.gd (D2.at_ (a := p) (o := accO d qs n1) 3 (by kernel_rfl)) (D2.at_ (a := d) (o := dctO x1 t1 f t2) 4 (by kernel_rfl)) hsz ?_
    intro h5 tk5 q5 n5 K5 aq5 fq5 ap5
    refine Exists.elim ((D2.turnPlus (j := 3) (x := (p, accO d qs n1)) (by kernel_rfl) K5 ap5.1 aq5 fq5).ex) ?_
    intro Z5 D5
    refine eng 1 0 (by exact hA) D5 (by kernel_rfl) ?_
    intro χ6 h6 D6
    refine finQ (f := .done .next) (by kernel_rfl) ?_
    have K6 : Kp [p] h h6 := Rep.kpF 1 [true, true, true, false, true, true] D D6 (by kernel_rfl)
    have bp := D6.at_ (a := p) (o := accO d (qs ++ [q5]) n5) 4 (by kernel_rfl)
    have bq := D6.at_ (a := q5) (o := tupO c.1 s1 c.2 s2) 0 (by kernel_rfl)
    exact k' h6 _ n5 q5 K6 D6.gd bp ⟨_, _, bq⟩ (D2.keep.fresh fq5)
theorem turn_l {E : Value → Shared → Prop} {Q : Flow → Shared → Prop} {F P p d Tb NL l1 hn qa qb sd ql qr : Addr} {H : Nat → Int} {K : Nat → Tok} {k nu ld en n ra rb nP n1 : Nat} {u1 u2 u3 u4 u5 u6 u7 t1 t2 : Tok} {pz : List (Str × Value)} {x1 f : Int} {qs ps : List Addr} {c : Str × Str}
    (hA : A.handled = none) (hd : A.depth + 100 < recursionLimit) (G : Gd w h) (hpz : Pz nPc pz) (aF : At w h F (frL H K (turn6 k nu ld n u1 u2 u3 u4 u5 u6 u7 Tb NL l1 hn qa qb sd ra rb pz ql qr) en)) (aC : At w h (F + 1) (cellO (.ref P))) (aP : At w h P (lstO (ps.map .ref) nP)) (ap : At w h p (accO d qs n1)) (ad : At w h d (dctO x1 t1 f t2)) (tq : Tup w h qr c)
    (hk : 1 ≤ k) (hPk : ps[k + 1]? = some p) (hps : ps.length ≤ 100) (hsz : qs.length ≤ 100)
    (k' : ∀ h' tk' n1' q', Kp [p] h h' → Gd w h' → At w h' p (accO d (qs ++ [q']) n1') → Tup w h' q' c → h.get? q' = none → wpAny (model pw w) A (execs ((B171 w).drop 17) (E171 w F)) Q E ⟨h', g, dr, tk', os⟩) :
    wpAny (model pw w) A (execs ((B171 w).drop 16) (E171 w F)) Q E ⟨h, g, dr, tk, os⟩ := by
  obtain ⟨s1, s2, tq⟩ := tq
  rcases hpz with rfl | ⟨v0, rfl⟩
  · skip
    obtain ⟨Z, D⟩ : ∃ Z, Rep (KTw w) h [F, F + 1, P, p, d, qr] h [(F, frL H K (turn6 k nu ld n u1 u2 u3 u4 u5 u6 u7 Tb NL l1 hn qa qb sd ra rb [] ql qr) en), (F + 1, cellO (.ref P)), (P, lstO (ps.map .ref) nP), (p, accO d qs n1), (d, dctO x1 t1 f t2), (qr, tupO c.1 s1 c.2 s2)] Z := Rep.initC (T := [(F, frL H K (turn6 k nu ld n u1 u2 u3 u4 u5 u6 u7 Tb NL l1 hn qa qb sd ra rb [] ql qr) en), (F + 1, cellO (.ref P)), (P, lstO (ps.map .ref) nP), (p, accO d qs n1), (d, dctO x1 t1 f t2), (qr, tupO c.1 s1 c.2 s2)]) G (oc aF (oc aC (oc aP (oc ap (oc ad (oc tq on)))))) (by kernel_rfl)
    refine atCut 1 ?_
    refine top_execs (R := fun _ _ => True) ?_
    intro θ
    refine eng 15 15637975488902980689876115668467712 (by exact hA) D (by kernel_rfl) ?_
    intro χ1 h1 D1
    refine hook2 (fun u v => .call (.builtin "list.__getitem__") ⟨[.ref P, .int (((k : Nat) : Int) + 1) v], []⟩) (by kernel_rfl) ?_
    intro y1 y2
    refine getitem_specI (v := .ref p) (vs := ps.map Value.ref) (n := nP) (k + 1) (by omega) (D1.at_ (a := P) (o := lstO (ps.map .ref) nP) 2 (by kernel_rfl)).1 (get_map hPk) (by simp; omega) ?_
    refine eng 43 50062960054589178000582422221471309913343433026484400705160781927625236832251016463832720606208 (by exact hA) D1 (by kernel_rfl) ?_
    intro χ2 h2 D2
    refine hook (c' := .call (.ref 45) ⟨[.ref p, .str c.1 s1, .str c.2 s2], []⟩) (by kernel_rfl) ?_
    refine push_spec (d := d) (qs := qs) (n := n1) (f := f) (hs := x1) (tk1 := t1) (tk2 := t2) (ac_handled hA) (depL (b := A.depth) 0 (by kernel_rfl) hd rfl) D2.gd (D2.at_ (a := p) (o := accO d qs n1) 3 (by kernel_rfl)) (D2.at_ (a := d) (o := dctO x1 t1 f t2) 4 (by kernel_rfl)) hsz ?_
    intro h5 tk5 q5 n5 K5 aq5 fq5 ap5
    refine Exists.elim ((D2.turnPlus (j := 3) (x := (p, accO d qs n1)) (by kernel_rfl) K5 ap5.1 aq5 fq5).ex) ?_
    intro Z5 D5
    refine eng 1 0 (by exact hA) D5 (by kernel_rfl) ?_
    intro χ6 h6 D6
    refine finQ (f := .done .next) (by kernel_rfl) ?_
    have K6 : Kp [p] h h6 := Rep.kpF 1 [true, true, true, false, true, true] D D6 (by kernel_rfl)
    have bp := D6.at_ (a := p) (o := accO d (qs ++ [q5]) n5) 4 (by kernel_rfl)
    have bq := D6.at_ (a := q5) (o := tupO c.1 s1 c.2 s2) 0 (by kernel_rfl)
    exact k' h6 _ n5 q5 K6 D6.gd bp ⟨_, _, bq⟩ (D2.keep.fresh fq5)
  · skip
    obtain ⟨Z, D⟩ : ∃ Z, Rep (KTw w) h [F, F + 1, P, p, d, qr] h [(F, frL H K (turn6 k nu ld n u1 u2 u3 u4 u5 u6 u7 Tb NL l1 hn qa qb sd ra rb [(nPc, v0)] ql qr) en), (F + 1, cellO (.ref P)), (P, lstO (ps.map .ref) nP), (p, accO d qs n1), (d, dctO x1 t1 f t2), (qr, tupO c.1 s1 c.2 s2)] Z := Rep.initC (T := [(F, frL H K (turn6 k nu ld n u1 u2 u3 u4 u5 u6 u7 Tb NL l1 hn qa qb sd ra rb [(nPc, v0)] ql qr) en), (F + 1, cellO (.ref P)), (P, lstO (ps.map .ref) nP), (p, accO d qs n1), (d, dctO x1 t1 f t2), (qr, tupO c.1 s1 c.2 s2)]) G (oc aF (oc aC (oc aP (oc ap (oc ad (oc tq on)))))) (by kernel_rfl)
    refine atCut 1 ?_
    refine top_execs (R := fun _ _ => True) ?_
    intro θ
    refine eng 15 15637975488902980689876115668467712 (by exact hA) D (by kernel_rfl) ?_
    intro χ1 h1 D1
    refine hook2 (fun u v => .call (.builtin "list.__getitem__") ⟨[.ref P, .int (((k : Nat) : Int) + 1) v], []⟩) (by kernel_rfl) ?_
    intro y1 y2
    refine getitem_specI (v := .ref p) (vs := ps.map Value.ref) (n := nP) (k + 1) (by omega) (D1.at_ (a := P) (o := lstO (ps.map .ref) nP) 2 (by kernel_rfl)).1 (get_map hPk) (by simp; omega) ?_
    refine eng 43 50062960054589178000582422221471309913343433026484400705160781927625236832251016463832720606208 (by exact hA) D1 (by kernel_rfl) ?_
    intro χ2 h2 D2
    refine hook (c' := .call (.ref 45) ⟨[.ref p, .str c.1 s1, .str c.2 s2], []⟩) (by kernel_rfl) ?_
    refine push_spec (d := d) (qs := qs) (n := n1) (f := f) (hs := x1) (tk1 := t1) (tk2 := t2) (ac_handled hA) (depL (b := A.depth) 0 (by kernel_rfl) hd rfl) D2.gd (D2.at_ (a := p) (o := accO d qs n1) 3 (by kernel_rfl)) (D2.at_ (a := d) (o := dctO x1 t1 f t2) 4 (by kernel_rfl)) hsz ?_
    intro h5 tk5 q5 n5 K5 aq5 fq5 ap5
    refine Exists.elim ((D2.turnPlus (j := 3) (x := (p, accO d qs n1)) (by kernel_rfl) K5 ap5.1 aq5 fq5).ex) ?_
    intro Z5 D5
    refine eng 1 0 (by exact hA) D5 (by kernel_rfl) ?_
    intro χ6 h6 D6
    refine finQ (f := .done .next) (by kernel_rfl) ?_
    have K6 : Kp [p] h h6 := Rep.kpF 1 [true, true, true, false, true, true] D D6 (by kernel_rfl)
    have bp := D6.at_ (a := p) (o := accO d (qs ++ [q5]) n5) 4 (by kernel_rfl)
    have bq := D6.at_ (a := q5) (o := tupO c.1 s1 c.2 s2) 0 (by kernel_rfl)
    exact k' h6 _ n5 q5 K6 D6.gd bp ⟨_, _, bq⟩ (D2.keep.fresh fq5)
theorem listadd_spec {l b : Addr} {vs vs2 : List Value} {n n2 : Nat} (G : Gd w h) (hl : h.get? l = some (lstO vs n)) (hb : h.get? b = some (lstO vs2 n2)) (hsz : vs.length + vs2.length ≤ 1000)
    (k : ∀ h' q, Kp [] h h' → At w h' q (lstO (vs ++ vs2) 0) → h.get? q = none → R (.ok (.ret (.ref q))) ⟨h', g, dr, tk, os⟩) :
    codeAny (model pw w) A (.call (.builtin "list.__add__") ⟨[.ref l, .ref b], []⟩) R ⟨h, g, dr, tk, os⟩ := by
  refine hk_meets F.slot_list_add ⟨_, hl, rfl⟩ F.entry_list_add (F.args_list_add_2 _ _) (AutoSeq1.list___add___list_list_0 l vs.toArray n b vs2.toArray n2 (by simp only [List.size_toArray, sizeLine]; omega)) ⟨hl, hb, ?_⟩
  have e : vs.toArray ++ vs2.toArray = (vs ++ vs2).toArray := by simp
  have := k (h.push (lstO (vs ++ vs2) 0)) h.objs.size ((Kp.refl [] h).push _) ⟨Heap.get?_push_size _ rfl, off_fresh (h := h) G (get_size _)⟩ (get_size _)
  simpa only [e] using this
def fdT (o : Obj) (i : Nat) : Tok := match o.data with
  | .fields xs => tokV xs[i]?
  | _ => 0
theorem slc_upto (qs : List Addr) (i : Nat) : slicePick (qs.map Value.ref).toArray none (some (i : Int)) none = ((qs.take i).map Value.ref).toArray := by
  rw [slicePick_upto', List.map_take]
theorem slc_from (qs : List Addr) (x : Int) (i : Nat) (e : x = (i : Nat)) : slicePick (qs.map Value.ref).toArray (some x) none none = ((qs.drop i).map Value.ref).toArray := by
  rw [e, slicePick_from', List.map_drop]
theorem slc_run (qs : List Addr) (x : Int) (i j : Nat) (e : x = (i : Nat)) (hij : i ≤ j) (hj : j ≤ qs.length) : slicePick (qs.map Value.ref).toArray (some x) (some (j : Int)) none = (((qs.drop i).take (j - i)).map Value.ref).toArray := by
  rw [e, slicePick_run _ _ _ (by simpa using hj) hij, List.map_take, List.map_drop]
abbrev turn7 (k nu ld n : Nat) (u1 u2 u3 u4 u5 u6 u7 : Tok) (Tb NL l1 hn qa qb sd : Addr) (ra rb : Nat) (pz : List (Str × Value)) (ql qr du : Addr) : List (Str × Value) := turn6 k nu ld n u1 u2 u3 u4 u5 u6 u7 Tb NL l1 hn qa qb sd ra rb pz ql qr ++ ([("due", .ref du)] : List (Str × Value))
theorem nd5 {F a b c d : Addr} {o o1 : Obj} (x : At w h F o) (y : At w h a o1) (z : ∀ v ∈ [a, b, c, d], ∃ o, At w h v o ∧ o.cls = .type "list") (hF : o.cls ≠ .type "list") (nd : [a, b, c, d].Nodup) : [F, a, b, c, d].Nodup := by
  refine List.nodup_cons.mpr ⟨fun hm => ?_, nd⟩
  obtain ⟨o', ho, hc⟩ := z F hm
  have := x.1.symm.trans ho.1
  cases this
  exact hF hc
theorem turn_m {E : Value → Shared → Prop} {Q : Flow → Shared → Prop} {F Tb NL l0 l1 l2 hn qa qb sd ql qr : Addr} {H : Nat → Int} {K : Nat → Tok} {k nu ld en n ra rb kn k0 k1 k2 : Nat} {u1 u2 u3 u4 u5 u6 u7 : Tok} {pz : List (Str × Value)} {qs0 qs1 qs2 : List Addr}
    (hA : A.handled = none) (G : Gd w h) (hpz : Pz nPc pz) (aF : At w h F (frL H K (turn6 k nu ld n u1 u2 u3 u4 u5 u6 u7 Tb NL l1 hn qa qb sd ra rb pz ql qr) en)) (aN : At w h NL (lstO [.ref l0, .ref l1, .ref l2] kn)) (a0 : At w h l0 (lstO (qs0.map .ref) k0)) (a1 : At w h l1 (lstO (qs1.map .ref) k1)) (a2 : At w h l2 (lstO (qs2.map .ref) k2))
    (nd : [NL, l0, l1, l2].Nodup) (hq0 : qs0.length ≤ 100) (hq1 : qs1.length ≤ 100) (hq2 : qs2.length ≤ 100) (hi : tI n nu < tJ n nu) (hj : tJ n nu < qs1.length)
    (k' : ∀ h' tk' H' K' en' du w0 w1 w2, Kp [F] h h' → Gd w h' → At w h' F (frL H' K' (turn7 k nu ld n u1 u2 u3 u4 u5 u6 u7 Tb NL l1 hn qa qb sd ra rb pz ql qr du) en') → At w h' du (lstO [.ref w0, .ref w1, .ref w2] 0) → At w h' w0 (lstO ((qs0 ++ [ql]).map .ref) 0) → At w h' w1 (lstO ((qs1.take (tI n nu) ++ (qs1.drop (tI n nu + 1)).take (tJ n nu - (tI n nu + 1)) ++ qs1.drop (tJ n nu + 1)).map .ref) 0) → At w h' w2 (lstO ((qs2 ++ [qr]).map .ref) 0) → wpAny (model pw w) A (execs ((B171 w).drop 18) (E171 w F)) Q E ⟨h', g, dr, tk', os⟩) :
    wpAny (model pw w) A (execs ((B171 w).drop 17) (E171 w F)) Q E ⟨h, g, dr, tk, os⟩ := by
  have hx0 : (qs0.map Value.ref).length ≤ 100 := by simpa using hq0
  have hx2 : (qs2.map Value.ref).length ≤ 100 := by simpa using hq2
  have hx1 : (qs1.map Value.ref).toArray.size ≤ 1000 := by simp; omega
  have i1 : ((qs1.take (tI n nu)).map Value.ref).length ≤ 100 := by simp; omega
  have i2 : (((qs1.drop (tI n nu + 1)).take (tJ n nu - (tI n nu + 1))).map Value.ref).length ≤ 100 := by simp; omega
  have i3 : ((qs1.drop (tJ n nu + 1)).map Value.ref).length ≤ 100 := by simp; omega
  have i12 : (((qs1.take (tI n nu)).map Value.ref) ++ (((qs1.drop (tI n nu + 1)).take (tJ n nu - (tI n nu + 1))).map Value.ref)).length ≤ 200 := by rw [List.length_append]; omega
  have nd' : [F, NL, l0, l1, l2].Nodup := by
    refine nd5 aF aN ?_ (by simp) nd
    simp only [List.forall_mem_cons]
    exact ⟨⟨_, aN, rfl⟩, ⟨_, a0, rfl⟩, ⟨_, a1, rfl⟩, ⟨_, a2, rfl⟩, by simp⟩
  rcases hpz with rfl | ⟨v0, rfl⟩
  · skip
    obtain ⟨Z, D⟩ : ∃ Z, Rep (KTw w) h [F, NL, l0, l1, l2] h [(F, frL H K (turn6 k nu ld n u1 u2 u3 u4 u5 u6 u7 Tb NL l1 hn qa qb sd ra rb [] ql qr) en), (NL, lstO [.ref l0, .ref l1, .ref l2] kn), (l0, lstO (qs0.map .ref) k0), (l1, lstO (qs1.map .ref) k1), (l2, lstO (qs2.map .ref) k2)] Z := ⟨_, Rep.init (T := [(F, frL H K (turn6 k nu ld n u1 u2 u3 u4 u5 u6 u7 Tb NL l1 hn qa qb sd ra rb [] ql qr) en), (NL, lstO [.ref l0, .ref l1, .ref l2] kn), (l0, lstO (qs0.map .ref) k0), (l1, lstO (qs1.map .ref) k1), (l2, lstO (qs2.map .ref) k2)]) G (oc aF (oc aN (oc a0 (oc a1 (oc a2 on))))) nd'⟩
    refine atCut 1 ?_
    refine top_execs (R := fun _ _ => True) ?_
    intro θ
    refine eng 9 37038166285465157632 (by exact hA) D (by kernel_rfl) ?_
    intro χ1 h1 D1
    refine hook2 (fun u v => .call (.builtin "list.__getitem__") ⟨[.ref NL, .int 0 v], []⟩) (by kernel_rfl) ?_
    intro x1 y1
    refine getitem_spec (m := 0) (v := .ref l0) (vs := [.ref l0, .ref l1, .ref l2]) (n := kn) (D1.at_ (a := NL) (o := lstO [.ref l0, .ref l1, .ref l2] kn) 1 (by kernel_rfl)).1 rfl (by simp) ?_
    refine eng 9 288516249174999040 (by exact hA) D1 (by kernel_rfl) ?_
    intro χ2 h2 D2
    refine hook (c' := .call (.builtin "list.__add__") ⟨[.ref l0, .ref (adrAt χ2.T 0)], []⟩) (by kernel_rfl) ?_
    refine listadd_spec (vs := qs0.map .ref) (vs2 := [.ref ql]) (n := k0) (n2 := 0) D2.gd (D2.at_ (a := l0) (o := lstO (qs0.map .ref) k0) 3 (by kernel_rfl)).1 (D2.at_ (a := adrAt χ2.T 0) (o := lstO [.ref ql] 0) 0 (by kernel_rfl)).1 (by simp only [List.length_cons, List.length_nil]; omega) ?_
    intro h3 q3 K3 aq3 fq3
    refine Exists.elim ((D2.plus K3 aq3 fq3).ex) ?_
    intro Z3 D3
    refine eng 10 33186196991774633951232 (by exact hA) D3 (by kernel_rfl) ?_
    intro χ4 h4 D4
    refine hook (c' := .call (.builtin "list.__getitem__") ⟨[.ref l1, .ref (adrAt χ4.T 0)], []⟩) (by kernel_rfl) ?_
    refine getslice_lst (n := k1) (xs := (qs1.map Value.ref).toArray) (vl := .none) (vu := .int (tI n nu : Nat) u4) (vs := .none) (ac_handled hA) (D4.two 6 0 (by kernel_rfl) (by kernel_rfl) rfl) .none (.int _ _) .none (by simp) hx1 ?_
    intro h5 tk5 q5 K5 aq5 fq5
    rw [slc_upto] at aq5
    refine Exists.elim ((D4.plus (o := lstO ((qs1.take (tI n nu)).map .ref) 0) K5 aq5 fq5).ex) ?_
    intro Z5 D5
    refine eng 18 787085077740488871046212922941211591114752 (by exact hA) D5 (by kernel_rfl) ?_
    intro χ6 h6 D6
    refine hook (c' := .call (.builtin "list.__getitem__") ⟨[.ref l1, .ref (adrAt χ6.T 0)], []⟩) (by kernel_rfl) ?_
    refine getslice_lst (n := k1) (xs := (qs1.map Value.ref).toArray) (vl := .int ((tI n nu : Nat) + 1) (fdT (objAt χ6.T 0) 0)) (vu := .int (tJ n nu : Nat) u5) (vs := .none) (ac_handled hA) (D6.two 8 0 (by kernel_rfl) (by kernel_rfl) rfl) (.int _ _) (.int _ _) .none (by simp) hx1 ?_
    intro h7 tk7 q7 K7 aq7 fq7
    rw [slc_run qs1 _ (tI n nu + 1) (tJ n nu) (by push_cast; rfl) (by omega) (by omega)] at aq7
    refine Exists.elim ((D6.plus (o := lstO (((qs1.drop (tI n nu + 1)).take (tJ n nu - (tI n nu + 1))).map .ref) 0) K7 aq7 fq7).ex) ?_
    intro Z7 D7
    refine eng 6 12901875712 (by exact hA) D7 (by kernel_rfl) ?_
    intro χ8 h8 D8
    refine hook (c' := .call (.builtin "list.__add__") ⟨[.ref q5, .ref q7], []⟩) (by kernel_rfl) ?_
    refine listadd_spec (vs := (qs1.take (tI n nu)).map .ref) (vs2 := ((qs1.drop (tI n nu + 1)).take (tJ n nu - (tI n nu + 1))).map .ref) (n := 0) (n2 := 0) D8.gd (D8.at_ (a := q5) (o := lstO ((qs1.take (tI n nu)).map .ref) 0) 2 (by kernel_rfl)).1 (D8.at_ (a := q7) (o := lstO (((qs1.drop (tI n nu + 1)).take (tJ n nu - (tI n nu + 1))).map .ref) 0) 0 (by kernel_rfl)).1 (by omega) ?_
    intro h9 q9 K9 aq9 fq9
    refine Exists.elim ((D8.plus K9 aq9 fq9).ex) ?_
    intro Z9 D9
    refine eng 16 16013286900636652226433138080690470912 (by exact hA) D9 (by kernel_rfl) ?_
    intro χ10 h10 D10
    refine hook (c' := .call (.builtin "list.__getitem__") ⟨[.ref l1, .ref (adrAt χ10.T 0)], []⟩) (by kernel_rfl) ?_
    refine getslice_lst (n := k1) (xs := (qs1.map Value.ref).toArray) (vl := .int ((tJ n nu : Nat) + 1) (fdT (objAt χ10.T 0) 0)) (vu := .none) (vs := .none) (ac_handled hA) (D10.two 11 0 (by kernel_rfl) (by kernel_rfl) rfl) (.int _ _) .none .none (by simp) hx1 ?_
    intro h11 tk11 q11 K11 aq11 fq11
    rw [slc_from qs1 _ (tJ n nu + 1) (by push_cast; rfl)] at aq11
    refine Exists.elim ((D10.plus (o := lstO ((qs1.drop (tJ n nu + 1)).map .ref) 0) K11 aq11 fq11).ex) ?_
    intro Z11 D11
    refine eng 6 12901875712 (by exact hA) D11 (by kernel_rfl) ?_
    intro χ12 h12 D12
    refine hook (c' := .call (.builtin "list.__add__") ⟨[.ref q9, .ref q11], []⟩) (by kernel_rfl) ?_
    refine listadd_spec (vs := (qs1.take (tI n nu)).map .ref ++ ((qs1.drop (tI n nu + 1)).take (tJ n nu - (tI n nu + 1))).map .ref) (vs2 := (qs1.drop (tJ n nu + 1)).map .ref) (n := 0) (n2 := 0) D12.gd (D12.at_ (a := q9) (o := lstO ((qs1.take (tI n nu)).map .ref ++ ((qs1.drop (tI n nu + 1)).take (tJ n nu - (tI n nu + 1))).map .ref) 0) 2 (by kernel_rfl)).1 (D12.at_ (a := q11) (o := lstO ((qs1.drop (tJ n nu + 1)).map .ref) 0) 0 (by kernel_rfl)).1 (by omega) ?_
    intro h13 q13 K13 aq13 fq13
    refine Exists.elim ((D12.plus K13 aq13 fq13).ex) ?_
    intro Z13 D13
    refine eng 8 868082022315917312 (by exact hA) D13 (by kernel_rfl) ?_
    intro χ14 h14 D14
    refine hook2 (fun u v => .call (.builtin "list.__getitem__") ⟨[.ref NL, .int 2 v], []⟩) (by kernel_rfl) ?_
    intro x14 y14
    refine getitem_spec (m := 2) (v := .ref l2) (vs := [.ref l0, .ref l1, .ref l2]) (n := kn) (D14.at_ (a := NL) (o := lstO [.ref l0, .ref l1, .ref l2] kn) 11 (by kernel_rfl)).1 rfl (by simp) ?_
    refine eng 9 1153220571770322944 (by exact hA) D14 (by kernel_rfl) ?_
    intro χ15 h15 D15
    refine hook (c' := .call (.builtin "list.__add__") ⟨[.ref l2, .ref (adrAt χ15.T 0)], []⟩) (by kernel_rfl) ?_
    refine listadd_spec (vs := qs2.map .ref) (vs2 := [.ref qr]) (n := k2) (n2 := 0) D15.gd (D15.at_ (a := l2) (o := lstO (qs2.map .ref) k2) 15 (by kernel_rfl)).1 (D15.at_ (a := adrAt χ15.T 0) (o := lstO [.ref qr] 0) 0 (by kernel_rfl)).1 (by simp only [List.length_cons, List.length_nil]; omega) ?_
    intro h16 q16 K16 aq16 fq16
    refine Exists.elim ((D15.plus K16 aq16 fq16).ex) ?_
    intro Z16 D16
    refine eng 9 1012746966204940288 (by exact hA) D16 (by kernel_rfl) ?_
    intro χ17 h17 D17
    refine finQ (f := .done .next) (by kernel_rfl) ?_
    have K18 : Kp [F] h h17 := Rep.kpF 13 [false, true, true, true, true] D D17 (by kernel_rfl)
    have bF := D17.at_ (a := F) (o := frL (eHi (objAt χ17.T 13)) (eKi (objAt χ17.T 13)) (turn7 k nu ld n u1 u2 u3 u4 u5 u6 u7 Tb NL l1 hn qa qb sd ra rb [] ql qr (adrAt χ17.T 0)) (eNd (objAt χ17.T 13))) 13 (by kernel_rfl)
    have bd := D17.at_ (a := adrAt χ17.T 0) (o := lstO [.ref q3, .ref q13, .ref q16] 0) 0 (by kernel_rfl)
    have b0 := D17.at_ (a := q3) (o := lstO (qs0.map .ref ++ [.ref ql]) 0) 11 (by kernel_rfl)
    have b1 := D17.at_ (a := q13) (o := lstO ((qs1.take (tI n nu)).map .ref ++ ((qs1.drop (tI n nu + 1)).take (tJ n nu - (tI n nu + 1))).map .ref ++ (qs1.drop (tJ n nu + 1)).map .ref) 0) 3 (by kernel_rfl)
    have b2 := D17.at_ (a := q16) (o := lstO (qs2.map .ref ++ [.ref qr]) 0) 1 (by kernel_rfl)
    rw [show qs0.map Value.ref ++ [Value.ref ql] = (qs0 ++ [ql]).map Value.ref by simp] at b0
    rw [← List.map_append, ← List.map_append] at b1
    rw [show qs2.map Value.ref ++ [Value.ref qr] = (qs2 ++ [qr]).map Value.ref by simp] at b2
    exact k' h17 _ _ _ _ _ q3 q13 q16 K18 D17.gd bF bd b0 b1 b2
  · skip
    obtain ⟨Z, D⟩ : ∃ Z, Rep (KTw w) h [F, NL, l0, l1, l2] h [(F, frL H K (turn6 k nu ld n u1 u2 u3 u4 u5 u6 u7 Tb NL l1 hn qa qb sd ra rb [(nPc, v0)] ql qr) en), (NL, lstO [.ref l0, .ref l1, .ref l2] kn), (l0, lstO (qs0.map .ref) k0), (l1, lstO (qs1.map .ref) k1), (l2, lstO (qs2.map .ref) k2)] Z := ⟨_, Rep.init (T := [(F, frL H K (turn6 k nu ld n u1 u2 u3 u4 u5 u6 u7 Tb NL l1 hn qa qb sd ra rb [(nPc, v0)] ql qr) en), (NL, lstO [.ref l0, .ref l1, .ref l2] kn), (l0, lstO (qs0.map .ref) k0), (l1, lstO (qs1.map .ref) k1), (l2, lstO (qs2.map .ref) k2)]) G (oc aF (oc aN (oc a0 (oc a1 (oc a2 on))))) nd'⟩
    refine atCut 1 ?_
    refine top_execs (R := fun _ _ => True) ?_
    intro θ
    refine eng 9 37038166285465157632 (by exact hA) D (by kernel_rfl) ?_
    intro χ1 h1 D1
    refine hook2 (fun u v => .call (.builtin "list.__getitem__") ⟨[.ref NL, .int 0 v], []⟩) (by kernel_rfl) ?_
    intro x1 y1
    refine getitem_spec (m := 0) (v := .ref l0) (vs := [.ref l0, .ref l1, .ref l2]) (n := kn) (D1.at_ (a := NL) (o := lstO [.ref l0, .ref l1, .ref l2] kn) 1 (by kernel_rfl)).1 rfl (by simp) ?_
    refine eng 9 288516249174999040 (by exact hA) D1 (by kernel_rfl) ?_
    intro χ2 h2 D2
    refine hook (c' := .call (.builtin "list.__add__") ⟨[.ref l0, .ref (adrAt χ2.T 0)], []⟩) (by kernel_rfl) ?_
    refine listadd_spec (vs := qs0.map .ref) (vs2 := [.ref ql]) (n := k0) (n2 := 0) D2.gd (D2.at_ (a := l0) (o := lstO (qs0.map .ref) k0) 3 (by kernel_rfl)).1 (D2.at_ (a := adrAt χ2.T 0) (o := lstO [.ref ql] 0) 0 (by kernel_rfl)).1 (by simp only [List.length_cons, List.length_nil]; omega) ?_
    intro h3 q3 K3 aq3 fq3
    refine Exists.elim ((D2.plus K3 aq3 fq3).ex) ?_
    intro Z3 D3
    refine eng 10 33186196991774633951232 (by exact hA) D3 (by kernel_rfl) ?_
    intro χ4 h4 D4
    refine hook (c' := .call (.builtin "list.__getitem__") ⟨[.ref l1, .ref (adrAt χ4.T 0)], []⟩) (by kernel_rfl) ?_
    refine getslice_lst (n := k1) (xs := (qs1.map Value.ref).toArray) (vl := .none) (vu := .int (tI n nu : Nat) u4) (vs := .none) (ac_handled hA) (D4.two 6 0 (by kernel_rfl) (by kernel_rfl) rfl) .none (.int _ _) .none (by simp) hx1 ?_
    intro h5 tk5 q5 K5 aq5 fq5
    rw [slc_upto] at aq5
    refine Exists.elim ((D4.plus (o := lstO ((qs1.take (tI n nu)).map .ref) 0) K5 aq5 fq5).ex) ?_
    intro Z5 D5
    refine eng 18 787085077740488871046212922941211591114752 (by exact hA) D5 (by kernel_rfl) ?_
    intro χ6 h6 D6
    refine hook (c' := .call (.builtin "list.__getitem__") ⟨[.ref l1, .ref (adrAt χ6.T 0)], []⟩) (by kernel_rfl) ?_
    refine getslice_lst (n := k1) (xs := (qs1.map Value.ref).toArray) (vl := .int ((tI n nu : Nat) + 1) (fdT (objAt χ6.T 0) 0)) (vu := .int (tJ n nu : Nat) u5) (vs := .none) (ac_handled hA) (D6.two 8 0 (by kernel_rfl) (by kernel_rfl) rfl) (.int _ _) (.int _ _) .none (by simp) hx1 ?_
    intro h7 tk7 q7 K7 aq7 fq7
    rw [slc_run qs1 _ (tI n nu + 1) (tJ n nu) (by push_cast; rfl) (by omega) (by omega)] at aq7
    refine Exists.elim ((D6.plus (o := lstO (((qs1.drop (tI n nu + 1)).take (tJ n nu - (tI n nu + 1))).map .ref) 0) K7 aq7 fq7).ex) ?_
    intro Z7 D7
    refine eng 6 12901875712 (by exact hA) D7 (by kernel_rfl) ?_
    intro χ8 h8 D8
    refine hook (c' := .call (.builtin "list.__add__") ⟨[.ref q5, .ref q7], []⟩) (by kernel_rfl) ?_
    refine listadd_spec (vs := (qs1.take (tI n nu)).map .ref) (vs2 := ((qs1.drop (tI n nu + 1)).take (tJ n nu - (tI n nu + 1))).map .ref) (n := 0) (n2 := 0) D8.gd (D8.at_ (a := q5) (o := lstO ((qs1.take (tI n nu)).map .ref) 0) 2 (by kernel_rfl)).1 (D8.at_ (a := q7) (o := lstO (((qs1.drop (tI n nu + 1)).take (tJ n nu - (tI n nu + 1))).map .ref) 0) 0 (by kernel_rfl)).1 (by omega) ?_
    intro h9 q9 K9 aq9 fq9
    refine Exists.elim ((D8.plus K9 aq9 fq9).ex) ?_
    intro Z9 D9
    refine eng 16 16013286900636652226433138080690470912 (by exact hA) D9 (by kernel_rfl) ?_
    intro χ10 h10 D10
    refine hook (c' := .call (.builtin "list.__getitem__") ⟨[.ref l1, .ref (adrAt χ10.T 0)], []⟩) (by kernel_rfl) ?_
    refine getslice_lst (n := k1) (xs := (qs1.map Value.ref).toArray) (vl := .int ((tJ n nu : Nat) + 1) (fdT (objAt χ10.T 0) 0)) (vu := .none) (vs := .none) (ac_handled hA) (D10.two 11 0 (by kernel_rfl) (by kernel_rfl) rfl) (.int _ _) .none .none (by simp) hx1 ?_
    intro h11 tk11 q11 K11 aq11 fq11
    rw [slc_from qs1 _ (tJ n nu + 1) (by push_cast; rfl)] at aq11
    refine Exists.elim ((D10.plus (o := lstO ((qs1.drop (tJ n nu + 1)).map .ref) 0) K11 aq11 fq11).ex) ?_
    intro Z11 D11
    refine eng 6 12901875712 (by exact hA) D11 (by kernel_rfl) ?_
    intro χ12 h12 D12
    refine hook (c' := .call (.builtin "list.__add__") ⟨[.ref q9, .ref q11], []⟩) (by kernel_rfl) ?_
    refine listadd_spec (vs := (qs1.take (tI n nu)).map .ref ++ ((qs1.drop (tI n nu + 1)).take (tJ n nu - (tI n nu + 1))).map .ref) (vs2 := (qs1.drop (tJ n nu + 1)).map .ref) (n := 0) (n2 := 0) D12.gd (D12.at_ (a := q9) (o := lstO ((qs1.take (tI n nu)).map .ref ++ ((qs1.drop (tI n nu + 1)).take (tJ n nu - (tI n nu + 1))).map .ref) 0) 2 (by kernel_rfl)).1 (D12.at_ (a := q11) (o := lstO ((qs1.drop (tJ n nu + 1)).map .ref) 0) 0 (by kernel_rfl)).1 (by omega) ?_
    intro h13 q13 K13 aq13 fq13
    refine Exists.elim ((D12.plus K13 aq13 fq13).ex) ?_
    intro Z13 D13
    refine eng 8 868082022315917312 (by exact hA) D13 (by kernel_rfl) ?_
    intro χ14 h14 D14
    refine hook2 (fun u v => .call (.builtin "list.__getitem__") ⟨[.ref NL, .int 2 v], []⟩) (by kernel_rfl) ?_
    intro x14 y14
    refine getitem_spec (m := 2) (v := .ref l2) (vs := [.ref l0, .ref l1, .ref l2]) (n := kn) (D14.at_ (a := NL) (o := lstO [.ref l0, .ref l1, .ref l2] kn) 11 (by kernel_rfl)).1 rfl (by simp) ?_
    refine eng 9 1153220571770322944 (by exact hA) D14 (by kernel_rfl) ?_
    intro χ15 h15 D15
    refine hook (c' := .call (.builtin "list.__add__") ⟨[.ref l2, .ref (adrAt χ15.T 0)], []⟩) (by kernel_rfl) ?_
    refine listadd_spec (vs := qs2.map .ref) (vs2 := [.ref qr]) (n := k2) (n2 := 0) D15.gd (D15.at_ (a := l2) (o := lstO (qs2.map .ref) k2) 15 (by kernel_rfl)).1 (D15.at_ (a := adrAt χ15.T 0) (o := lstO [.ref qr] 0) 0 (by kernel_rfl)).1 (by simp only [List.length_cons, List.length_nil]; omega) ?_
    intro h16 q16 K16 aq16 fq16
    refine Exists.elim ((D15.plus K16 aq16 fq16).ex) ?_
    intro Z16 D16
    refine eng 9 1012746966204940288 (by exact hA) D16 (by kernel_rfl) ?_
    intro χ17 h17 D17
    refine finQ (f := .done .next) (by kernel_rfl) ?_
    have K18 : Kp [F] h h17 := Rep.kpF 13 [false, true, true, true, true] D D17 (by kernel_rfl)
    have bF := D17.at_ (a := F) (o := frL (eHi (objAt χ17.T 13)) (eKi (objAt χ17.T 13)) (turn7 k nu ld n u1 u2 u3 u4 u5 u6 u7 Tb NL l1 hn qa qb sd ra rb [(nPc, v0)] ql qr (adrAt χ17.T 0)) (eNd (objAt χ17.T 13))) 13 (by kernel_rfl)
    have bd := D17.at_ (a := adrAt χ17.T 0) (o := lstO [.ref q3, .ref q13, .ref q16] 0) 0 (by kernel_rfl)
    have b0 := D17.at_ (a := q3) (o := lstO (qs0.map .ref ++ [.ref ql]) 0) 11 (by kernel_rfl)
    have b1 := D17.at_ (a := q13) (o := lstO ((qs1.take (tI n nu)).map .ref ++ ((qs1.drop (tI n nu + 1)).take (tJ n nu - (tI n nu + 1))).map .ref ++ (qs1.drop (tJ n nu + 1)).map .ref) 0) 3 (by kernel_rfl)
    have b2 := D17.at_ (a := q16) (o := lstO (qs2.map .ref ++ [.ref qr]) 0) 1 (by kernel_rfl)
    rw [show qs0.map Value.ref ++ [Value.ref ql] = (qs0 ++ [ql]).map Value.ref by simp] at b0
    rw [← List.map_append, ← List.map_append] at b1
    rw [show qs2.map Value.ref ++ [Value.ref qr] = (qs2 ++ [qr]).map Value.ref by simp] at b2
    exact k' h17 _ _ _ _ _ q3 q13 q16 K18 D17.gd bF bd b0 b1 b2
theorem rows_eqAt {s : Shared} {l b : Addr} {qs rs : List Addr} {n n' : Nat} {cs : List (Str × Str)}
    (hl : s.heap.get? l = some (lstO (qs.map .ref) n)) (hb : s.heap.get? b = some (lstO (rs.map .ref) n')) (hq : Row w s.heap qs cs) (hr : Row w s.heap rs cs) (hne : l ≠ b) (hu : A.units + 1 < cLine) :
    EqAt A s (.ref l) (.ref b) true := by
  have h1 := hq.length
  have h2 := hr.length
  refine EqAt.of_refs hne ?_
  have e : (List.range (qs.map Value.ref).toArray.size).all (fun _ => true) = true := List.all_eq_true.mpr fun _ _ => rfl
  have := RcAt.lists (A := A) (s := s) (l := l) (b := b) (items := (qs.map Value.ref).toArray) (items2 := (rs.map Value.ref).toArray) (e := fun _ => true) ⟨_, hl, rfl, n, rfl⟩ ⟨_, hb, rfl, n', rfl⟩ (by simp; omega) (by omega) (fun j h1' h2' => by
    simp only [List.size_toArray, List.length_map] at h1' h2'
    obtain ⟨c, hc, x⟩ := hq.get (i := j) (List.getElem?_eq_getElem h1')
    obtain ⟨c', hc', y⟩ := hr.get (i := j) (List.getElem?_eq_getElem h2')
    rw [hc] at hc'
    cases hc'
    simp only [List.getElem_toArray, List.getElem_map]
    exact eq_pieces x y (by show A.units + 1 < _; omega))
  rw [e] at this
  exact this
theorem eq_three {prog : Program} {w' : World} {E : Value → Shared → Prop} {Q : Value → Shared → Prop} {s : Shared} {l b x0 x1 x2 y0 y1 y2 : Addr} {n n' m0 m1 m2 k0 k1 k2 : Nat} {qs0 qs1 qs2 rs0 rs1 rs2 : List Addr} {c0 c1 c2 : List (Str × Str)}
    (hl : s.heap.get? l = some (lstO [.ref x0, .ref x1, .ref x2] n)) (hb : s.heap.get? b = some (lstO [.ref y0, .ref y1, .ref y2] n'))
    (e0 : s.heap.get? x0 = some (lstO (qs0.map .ref) m0)) (e1 : s.heap.get? x1 = some (lstO (qs1.map .ref) m1)) (e2 : s.heap.get? x2 = some (lstO (qs2.map .ref) m2))
    (f0 : s.heap.get? y0 = some (lstO (rs0.map .ref) k0)) (f1 : s.heap.get? y1 = some (lstO (rs1.map .ref) k1)) (f2 : s.heap.get? y2 = some (lstO (rs2.map .ref) k2))
    (q0 : Row w s.heap qs0 c0) (q1 : Row w s.heap qs1 c1) (q2 : Row w s.heap qs2 c2) (r0 : Row w s.heap rs0 c0) (r1 : Row w s.heap rs1 c1) (r2 : Row w s.heap rs2 c2)
    (n0 : x0 ≠ y0) (n1 : x1 ≠ y1) (n2 : x2 ≠ y2) (hu : A.units + 10 < cLine) (h : Q (.bool true) s) :
    wpAny (model prog w') A (compareOp .Eq (.ref l) (.ref b)) Q E s := by
  refine eq_listAt (items := #[.ref x0, .ref x1, .ref x2]) (items2 := #[.ref y0, .ref y1, .ref y2]) (e := fun _ => true) ⟨_, hl, rfl, n, rfl⟩ ⟨_, hb, rfl, n', rfl⟩ rfl (by omega) (fun j h1' h2' => ?_) h
  have hu' : A.in1.units + 1 < cLine := by show A.units + 1 + 1 < _; omega
  have hj : j = 0 ∨ j = 1 ∨ j = 2 := by simp at h1'; omega
  rcases hj with rfl | rfl | rfl
  · exact rows_eqAt e0 f0 q0 r0 n0 hu'
  · exact rows_eqAt e1 f1 q1 r1 n1 hu'
  · exact rows_eqAt e2 f2 q2 r2 n2 hu'
theorem turn_n {E : Value → Shared → Prop} {Q : Flow → Shared → Prop} {F P p0 p1 p2 d0 d1 d2 Tb NL l1 hn qa qb sd ql qr du w0 w1 w2 : Addr} {H : Nat → Int} {K : Nat → Tok} {m nu ld en n ra rb nP n0 n1 n2 v0 v1 v2 : Nat} {u1 u2 u3 u4 u5 u6 u7 : Tok} {pz : List (Str × Value)} {qs0 qs1 qs2 rs0 rs1 rs2 ps : List Addr} {c0 c1 c2 : List (Str × Str)}
    (hA : A.handled = none) (hu : A.units + 300 < cLine) (G : Gd w h) (hpz : Pz nPc pz) (aF : At w h F (frL H K (turn7 (m + 1) nu ld n u1 u2 u3 u4 u5 u6 u7 Tb NL l1 hn qa qb sd ra rb pz ql qr du) en)) (aC : At w h (F + 1) (cellO (.ref P))) (aP : At w h P (lstO (ps.map .ref) nP))
    (a0 : At w h p0 (accO d0 qs0 n0)) (a1 : At w h p1 (accO d1 qs1 n1)) (a2 : At w h p2 (accO d2 qs2 n2)) (q0 : Row w h qs0 c0) (q1 : Row w h qs1 c1) (q2 : Row w h qs2 c2)
    (ad : At w h du (lstO [.ref w0, .ref w1, .ref w2] 0)) (b0 : At w h w0 (lstO (rs0.map .ref) v0)) (b1 : At w h w1 (lstO (rs1.map .ref) v1)) (b2 : At w h w2 (lstO (rs2.map .ref) v2)) (r0 : Row w h rs0 c0) (r1 : Row w h rs1 c1) (r2 : Row w h rs2 c2)
    (e0 : ps[m]? = some p0) (e1 : ps[m + 1]? = some p1) (e2 : ps[m + 2]? = some p2) (hps : ps.length ≤ 100) (hq0 : qs0.length ≤ 100) (hq1 : qs1.length ≤ 100) (hq2 : qs2.length ≤ 100)
    (k' : ∀ h' tk', Kp [] h h' → Gd w h' → Q (.ret (.bool true)) ⟨h', g, dr, tk', os⟩) :
    wpAny (model pw w) A (execs ((B171 w).drop 18) (E171 w F)) Q E ⟨h, g, dr, tk, os⟩ := by
  refine atRet (by kernel_rfl) ?_
  refine atCmp (by kernel_rfl) (by kernel_rfl) ?_
  refine wpAny_mono (Q := fun v s' => ∃ L nL x0 x1 x2 m0 m1 m2 h' tk', v = .ref L ∧ s' = (⟨h', g, dr, tk', os⟩ : Shared) ∧ Kp [] h h' ∧ Gd w h' ∧ At w h' L (lstO [.ref x0, .ref x1, .ref x2] nL) ∧ At w h' x0 (lstO (qs0.map .ref) m0) ∧ At w h' x1 (lstO (qs1.map .ref) m1) ∧ At w h' x2 (lstO (qs2.map .ref) m2) ∧ h.get? x0 = none ∧ h.get? x1 = none ∧ h.get? x2 = none) ?_ ?_ (fun _ _ x => x)
  · rcases hpz with rfl | ⟨v0, rfl⟩
    · skip
      obtain ⟨Z, D⟩ : ∃ Z, Rep (KTw w) h [F, F + 1, P] h [(F, frL H K (turn7 (m + 1) nu ld n u1 u2 u3 u4 u5 u6 u7 Tb NL l1 hn qa qb sd ra rb [] ql qr du) en), (F + 1, cellO (.ref P)), (P, lstO (ps.map .ref) nP)] Z := Rep.initC (T := [(F, frL H K (turn7 (m + 1) nu ld n u1 u2 u3 u4 u5 u6 u7 Tb NL l1 hn qa qb sd ra rb [] ql qr du) en), (F + 1, cellO (.ref P)), (P, lstO (ps.map .ref) nP)]) G (oc aF (oc aC (oc aP on))) (by kernel_rfl)
      refine top_eval (R := fun _ _ => True) ?_
      intro θ
      refine eng 23 96155115723274764794456911743441132513155336586199040 (by exact hA) D (by kernel_rfl) ?_
      intro χ1 h1 D1
      refine eng2 "special-get-raises" 1 0 1 0 (by exact hA) D1 (by kernel_rfl) ?_
      intro χ2 h2 D2
      refine eng 8 1099511628032 (by exact hA) D2 (by kernel_rfl) ?_
      intro χ3 h3 D3
      refine hook (c' := .compStart (nearE ⟨84, 13, 84, 18⟩ ⟨84, 23, 84, 28⟩ ⟨84, 32, 84, 38⟩ ⟨84, 39, 84, 40⟩ ⟨84, 32, 84, 41⟩ ⟨84, 12, 84, 42⟩ ⟨84, 47, 84, 48⟩ (.Tuple [.BinOp (.Name "k" ⟨84, 53, 84, 54⟩) .Sub (.Constant (.int 1) 0 ⟨84, 57, 84, 58⟩) ⟨84, 53, 84, 58⟩, .Name "k" ⟨84, 60, 84, 61⟩, .BinOp (.Name "k" ⟨84, 63, 84, 64⟩) .Add (.Constant (.int 1) 0 ⟨84, 67, 84, 68⟩) ⟨84, 63, 84, 68⟩] 0 ⟨84, 52, 84, 69⟩) ⟨84, 11, 84, 70⟩) 0 (.ref (adrAt χ3.T 2)) (.ref (adrAt χ3.T 1)) (cEnvAt nearS (adrAt χ3.T 0) [("places", F + 1)] (fdOf (slook (KTw w) 171)) F)) (by kernel_rfl) ?_
      have K3 : Kp [] h h3 := Rep.kpF 4 [true, true, true] D D3 (by kernel_rfl)
      have t0 := D3.at_ (a := adrAt χ3.T 0) (o := nsO #[] 0) 0 (by kernel_rfl)
      have t1 := D3.at_ (a := adrAt χ3.T 1) (o := lstX #[] 0) 1 (by kernel_rfl)
      have t2 := D3.at_ (a := adrAt χ3.T 2) (o := tiO (.ref (adrAt χ3.T 3)) (.int 0 0)) 2 (by kernel_rfl)
      have t3 := D3.at_ (a := adrAt χ3.T 3) (o := tplX #[.int (((m + 1 : Nat) : Int) - 1) (sqT (objAt χ3.T 3) 0), .int (m + 1 : Nat) u1, .int (((m + 1 : Nat) : Int) + 1) (sqT (objAt χ3.T 3) 2)]) 3 (by kernel_rfl)
      have t5 := D3.at_ (a := F + 1) (o := cellO (.ref P)) 5 (by kernel_rfl)
      have t6 := D3.at_ (a := P) (o := lstO (ps.map .ref) nP) 6 (by kernel_rfl)
      rw [show ((m + 1 : Nat) : Int) - 1 = (m : Nat) from by omega, show ((m + 1 : Nat) : Int) + 1 = ((m + 2 : Nat) : Int) from by omega] at t3
      refine near_spec (p0 := p0) (p1 := p1) (p2 := p2) (d0 := d0) (d1 := d1) (d2 := d2) (n0 := n0) (n1 := n1) (n2 := n2) (m0 := m) (m1 := m + 1) (m2 := m + 2) (qs0 := qs0) (qs1 := qs1) (qs2 := qs2) (ps := ps) (nP := nP) (na := 0) (en := 0) (ti := 0) (ac_handled hA) D3.gd t0 t1 t2 t5 t6 (a0.kp K3 (nin0 _)) (a1.kp K3 (nin0 _)) (a2.kp K3 (nin0 _)) t3 e0 e1 e2 hps hq0 hq1 hq2 (D3.apart (o := lstX #[] 0) (o' := lstO (ps.map .ref) nP) 1 6 (by kernel_rfl)) ?_
      intro h5 tk5 es5 en5 na5 z0 z1 z2 k0 k1 k2 K5 G5 o5 y0 y1 cl0 cl1 cl2 f0 f1 f2 n01 n02 n12
      obtain ⟨oi, hoi⟩ := K5.1 _ _ t2.1
      obtain ⟨h5a, h5t, h5v, rfl⟩ := o5
      refine Exists.elim (D3.turnL [(0, nsO #[⟨h5a, .str "n" h5t, h5v⟩] en5), (1, lstX #[.ref z0, .ref z1, .ref z2] na5), (2, oi)] K5 (by kernel_rfl) (by kernel_rfl) (all3 y0.1 y1.1 hoi)) ?_
      intro Z5 D5
      have D5c := D5.more3 D3 (setAll_keys _ _) cl0 f0 cl1 f1 cl2 f2 n01 n02 n12
      clear D5
      refine eng 5 67371012 (by exact hA) D5c (by kernel_rfl) ?_
      intro χ6 h6 D6
      refine finQ (f := .done (.ret (.ref (adrAt χ3.T 1)))) (by kernel_rfl) ?_
      have K6 : Kp [] h h6 := Rep.kpF 7 [true, true, true] D D6 (by kernel_rfl)
      exact ⟨_, na5, z0, z1, z2, k0, k1, k2, h6, _, rfl, rfl, K6, D6.gd, D6.at_ (a := adrAt χ3.T 1) (o := lstO [.ref z0, .ref z1, .ref z2] na5) 4 (by kernel_rfl), D6.at_ (a := z0) (o := lstO (qs0.map .ref) k0) 0 (by kernel_rfl), D6.at_ (a := z1) (o := lstO (qs1.map .ref) k1) 1 (by kernel_rfl), D6.at_ (a := z2) (o := lstO (qs2.map .ref) k2) 2 (by kernel_rfl), K3.fresh f0, K3.fresh f1, K3.fresh f2⟩
    · skip
      obtain ⟨Z, D⟩ : ∃ Z, Rep (KTw w) h [F, F + 1, P] h [(F, frL H K (turn7 (m + 1) nu ld n u1 u2 u3 u4 u5 u6 u7 Tb NL l1 hn qa qb sd ra rb [(nPc, v0)] ql qr du) en), (F + 1, cellO (.ref P)), (P, lstO (ps.map .ref) nP)] Z := Rep.initC (T := [(F, frL H K (turn7 (m + 1) nu ld n u1 u2 u3 u4 u5 u6 u7 Tb NL l1 hn qa qb sd ra rb [(nPc, v0)] ql qr du) en), (F + 1, cellO (.ref P)), (P, lstO (ps.map .ref) nP)]) G (oc aF (oc aC (oc aP on))) (by kernel_rfl)
      refine top_eval (R := fun _ _ => True) ?_
      intro θ
      refine eng 23 96155115723274764794456911743441132513155336586199040 (by exact hA) D (by kernel_rfl) ?_
      intro χ1 h1 D1
      refine eng2 "special-get-raises" 1 0 1 0 (by exact hA) D1 (by kernel_rfl) ?_
      intro χ2 h2 D2
      refine eng 8 1099511628032 (by exact hA) D2 (by kernel_rfl) ?_
      intro χ3 h3 D3
      refine hook (c' := .compStart (nearE ⟨84, 13, 84, 18⟩ ⟨84, 23, 84, 28⟩ ⟨84, 32, 84, 38⟩ ⟨84, 39, 84, 40⟩ ⟨84, 32, 84, 41⟩ ⟨84, 12, 84, 42⟩ ⟨84, 47, 84, 48⟩ (.Tuple [.BinOp (.Name "k" ⟨84, 53, 84, 54⟩) .Sub (.Constant (.int 1) 0 ⟨84, 57, 84, 58⟩) ⟨84, 53, 84, 58⟩, .Name "k" ⟨84, 60, 84, 61⟩, .BinOp (.Name "k" ⟨84, 63, 84, 64⟩) .Add (.Constant (.int 1) 0 ⟨84, 67, 84, 68⟩) ⟨84, 63, 84, 68⟩] 0 ⟨84, 52, 84, 69⟩) ⟨84, 11, 84, 70⟩) 0 (.ref (adrAt χ3.T 2)) (.ref (adrAt χ3.T 1)) (cEnvAt nearS (adrAt χ3.T 0) [("places", F + 1)] (fdOf (slook (KTw w) 171)) F)) (by kernel_rfl) ?_
      have K3 : Kp [] h h3 := Rep.kpF 4 [true, true, true] D D3 (by kernel_rfl)
      have t0 := D3.at_ (a := adrAt χ3.T 0) (o := nsO #[] 0) 0 (by kernel_rfl)
      have t1 := D3.at_ (a := adrAt χ3.T 1) (o := lstX #[] 0) 1 (by kernel_rfl)
      have t2 := D3.at_ (a := adrAt χ3.T 2) (o := tiO (.ref (adrAt χ3.T 3)) (.int 0 0)) 2 (by kernel_rfl)
      have t3 := D3.at_ (a := adrAt χ3.T 3) (o := tplX #[.int (((m + 1 : Nat) : Int) - 1) (sqT (objAt χ3.T 3) 0), .int (m + 1 : Nat) u1, .int (((m + 1 : Nat) : Int) + 1) (sqT (objAt χ3.T 3) 2)]) 3 (by kernel_rfl)
      have t5 := D3.at_ (a := F + 1) (o := cellO (.ref P)) 5 (by kernel_rfl)
      have t6 := D3.at_ (a := P) (o := lstO (ps.map .ref) nP) 6 (by kernel_rfl)
      rw [show ((m + 1 : Nat) : Int) - 1 = (m : Nat) from by omega, show ((m + 1 : Nat) : Int) + 1 = ((m + 2 : Nat) : Int) from by omega] at t3
      refine near_spec (p0 := p0) (p1 := p1) (p2 := p2) (d0 := d0) (d1 := d1) (d2 := d2) (n0 := n0) (n1 := n1) (n2 := n2) (m0 := m) (m1 := m + 1) (m2 := m + 2) (qs0 := qs0) (qs1 := qs1) (qs2 := qs2) (ps := ps) (nP := nP) (na := 0) (en := 0) (ti := 0) (ac_handled hA) D3.gd t0 t1 t2 t5 t6 (a0.kp K3 (nin0 _)) (a1.kp K3 (nin0 _)) (a2.kp K3 (nin0 _)) t3 e0 e1 e2 hps hq0 hq1 hq2 (D3.apart (o := lstX #[] 0) (o' := lstO (ps.map .ref) nP) 1 6 (by kernel_rfl)) ?_
      intro h5 tk5 es5 en5 na5 z0 z1 z2 k0 k1 k2 K5 G5 o5 y0 y1 cl0 cl1 cl2 f0 f1 f2 n01 n02 n12
      obtain ⟨oi, hoi⟩ := K5.1 _ _ t2.1
      obtain ⟨h5a, h5t, h5v, rfl⟩ := o5
      refine Exists.elim (D3.turnL [(0, nsO #[⟨h5a, .str "n" h5t, h5v⟩] en5), (1, lstX #[.ref z0, .ref z1, .ref z2] na5), (2, oi)] K5 (by kernel_rfl) (by kernel_rfl) (all3 y0.1 y1.1 hoi)) ?_
      intro Z5 D5
      have D5c := D5.more3 D3 (setAll_keys _ _) cl0 f0 cl1 f1 cl2 f2 n01 n02 n12
      clear D5
      refine eng 5 67371012 (by exact hA) D5c (by kernel_rfl) ?_
      intro χ6 h6 D6
      refine finQ (f := .done (.ret (.ref (adrAt χ3.T 1)))) (by kernel_rfl) ?_
      have K6 : Kp [] h h6 := Rep.kpF 7 [true, true, true] D D6 (by kernel_rfl)
      exact ⟨_, na5, z0, z1, z2, k0, k1, k2, h6, _, rfl, rfl, K6, D6.gd, D6.at_ (a := adrAt χ3.T 1) (o := lstO [.ref z0, .ref z1, .ref z2] na5) 4 (by kernel_rfl), D6.at_ (a := z0) (o := lstO (qs0.map .ref) k0) 0 (by kernel_rfl), D6.at_ (a := z1) (o := lstO (qs1.map .ref) k1) 1 (by kernel_rfl), D6.at_ (a := z2) (o := lstO (qs2.map .ref) k2) 2 (by kernel_rfl), K3.fresh f0, K3.fresh f1, K3.fresh f2⟩
  rintro v s' ⟨L, nL, x0, x1, x2, m0, m1, m2, h6, tk6, rfl, rfl, K6, G6, aL, z0, z1, z2, f0, f1, f2⟩
  refine wpAny_mono (Q := fun v s' => ∃ h' tk', v = .ref du ∧ s' = (⟨h', g, dr, tk', os⟩ : Shared) ∧ Kp [] h6 h' ∧ Gd w h') ?_ ?_ (fun _ _ x => x)
  · have aF6 := aF.kp K6 (nin0 _)
    rcases hpz with rfl | ⟨v0, rfl⟩
    · skip
      obtain ⟨Z, D⟩ : ∃ Z, Rep (KTw w) h6 [F] h6 [(F, frL H K (turn7 (m + 1) nu ld n u1 u2 u3 u4 u5 u6 u7 Tb NL l1 hn qa qb sd ra rb [] ql qr du) en)] Z := Rep.initC (T := [(F, frL H K (turn7 (m + 1) nu ld n u1 u2 u3 u4 u5 u6 u7 Tb NL l1 hn qa qb sd ra rb [] ql qr du) en)]) G6 (oc aF6 on) (by kernel_rfl)
      refine top_eval (R := fun _ _ => True) ?_
      intro θ
      refine eng 2 256 (by exact hA) D (by kernel_rfl) ?_
      intro χ7 h7 D7
      refine finQ (f := .done (.ret (.ref du))) (by kernel_rfl) ?_
      exact ⟨h7, _, rfl, rfl, Rep.kpF 0 [true] D D7 (by kernel_rfl), D7.gd⟩
    · skip
      obtain ⟨Z, D⟩ : ∃ Z, Rep (KTw w) h6 [F] h6 [(F, frL H K (turn7 (m + 1) nu ld n u1 u2 u3 u4 u5 u6 u7 Tb NL l1 hn qa qb sd ra rb [(nPc, v0)] ql qr du) en)] Z := Rep.initC (T := [(F, frL H K (turn7 (m + 1) nu ld n u1 u2 u3 u4 u5 u6 u7 Tb NL l1 hn qa qb sd ra rb [(nPc, v0)] ql qr du) en)]) G6 (oc aF6 on) (by kernel_rfl)
      refine top_eval (R := fun _ _ => True) ?_
      intro θ
      refine eng 2 256 (by exact hA) D (by kernel_rfl) ?_
      intro χ7 h7 D7
      refine finQ (f := .done (.ret (.ref du))) (by kernel_rfl) ?_
      exact ⟨h7, _, rfl, rfl, Rep.kpF 0 [true] D D7 (by kernel_rfl), D7.gd⟩
  rintro v s' ⟨h7, tk7, rfl, rfl, K7, G7⟩
  have K67 : Kp [] h h7 := K6.trans K7 fun _ _ _ q => q
  refine eq_three (w := w) (aL.kp K7 (nin0 _)).1 (ad.kp K67 (nin0 _)).1 (z0.kp K7 (nin0 _)).1 (z1.kp K7 (nin0 _)).1 (z2.kp K7 (nin0 _)).1 (b0.kp K67 (nin0 _)).1 (b1.kp K67 (nin0 _)).1 (b2.kp K67 (nin0 _)).1 (q0.kp0 K67) (q1.kp0 K67) (q2.kp0 K67) (r0.kp0 K67) (r1.kp0 K67) (r2.kp0 K67) (old_ne b0.1 f0) (old_ne b1.1 f1) (old_ne b2.1 f2) (by omega) ?_
  exact k' h7 tk7 K67 G7
theorem Row.take {qs : List Addr} {cs : List (Str × Str)} (x : Row w h qs cs) : ∀ m, Row w h (qs.take m) (cs.take m) := by
  induction x with
  | nil => intro m; simp only [List.take_nil]; exact .nil
  | cons a r ih =>
    intro m
    cases m with
    | zero => exact .nil
    | succ m => exact .cons a (ih m)
theorem Row.drop {qs : List Addr} {cs : List (Str × Str)} (x : Row w h qs cs) : ∀ m, Row w h (qs.drop m) (cs.drop m) := by
  induction x with
  | nil => intro m; simp only [List.drop_nil]; exact .nil
  | cons a r ih =>
    intro m
    cases m with
    | zero => exact .cons a r
    | succ m => exact ih m
theorem Row.erase {qs : List Addr} {cs : List (Str × Str)} (x : Row w h qs cs) : ∀ m, Row w h (qs.eraseIdx m) (cs.eraseIdx m) := by
  induction x with
  | nil => intro m; exact .nil
  | cons a r ih =>
    intro m
    cases m with
    | zero => exact r
    | succ m => exact .cons a (ih m)
theorem cut_due {α : Type} {i j : Nat} {r : List α} (hij : i < j) (hj : j < r.length) : r.take i ++ (r.drop (i + 1)).take (j - (i + 1)) ++ r.drop (j + 1) = Chip.cutR i j r := by
  rw [Chip.cutR_eq hij hj, List.eraseIdx_eq_take_drop_succ, List.append_assoc, List.drop_drop, show j - i - 1 = j - (i + 1) by omega, show i + 1 + (j - (i + 1) + 1) = j + 1 by omega]
structure Hold (w : World) (h : Heap) (F P NL l0 l1 l2 Tb d0 d1 d2 : Addr) (ps qs0 qs1 qs2 tqs : List Addr) (nP kn k0 k1 k2 nT : Nat) (s0 f0 s1 f1 s2 f2 : Int) (t0 t0' t1 t1' t2 t2' : Tok) (c0 c1 c2 : List (Str × Str)) : Prop where
  G : Gd w h
  aC : At w h (F + 1) (cellO (.ref P))
  aP : At w h P (lstO (ps.map .ref) nP)
  aN : At w h NL (lstO [.ref l0, .ref l1, .ref l2] kn)
  b0 : At w h l0 (lstO (qs0.map .ref) k0)
  b1 : At w h l1 (lstO (qs1.map .ref) k1)
  b2 : At w h l2 (lstO (qs2.map .ref) k2)
  aT : At w h Tb (lstO (tqs.map .ref) nT)
  e0 : At w h d0 (dctO s0 t0 f0 t0')
  e1 : At w h d1 (dctO s1 t1 f1 t1')
  e2 : At w h d2 (dctO s2 t2 f2 t2')
  q0 : Row w h qs0 c0
  q1 : Row w h qs1 c1
  q2 : Row w h qs2 c2
  rT : Row w h tqs pcs
theorem Hold.kp {h h' : Heap} {ks : List Addr} {F P NL l0 l1 l2 Tb d0 d1 d2 : Addr} {ps qs0 qs1 qs2 tqs : List Addr} {nP kn k0 k1 k2 nT : Nat} {s0 f0 s1 f1 s2 f2 : Int} {t0 t0' t1 t1' t2 t2' : Tok} {c0 c1 c2 : List (Str × Str)}
    (X : Hold w h F P NL l0 l1 l2 Tb d0 d1 d2 ps qs0 qs1 qs2 tqs nP kn k0 k1 k2 nT s0 f0 s1 f1 s2 f2 t0 t0' t1 t1' t2 t2' c0 c1 c2) (G' : Gd w h') (K : Kp ks h h')
    (hk : ∀ a ∈ ks, ∃ o, h.get? a = some o ∧ (o.cls = .type "frame" ∨ o.cls = .ref 101 ∨ (o.cls = .type "list" ∧ a ∉ [P, NL, l0, l1, l2, Tb]))) :
    Hold w h' F P NL l0 l1 l2 Tb d0 d1 d2 ps qs0 qs1 qs2 tqs nP kn k0 k1 k2 nT s0 f0 s1 f1 s2 f2 t0 t0' t1 t1' t2 t2' c0 c1 c2 := by
  have off : ∀ {x o}, At w h x o → (o.cls ≠ .type "frame" ∧ o.cls ≠ .ref 101 ∧ (o.cls = .type "list" → x ∈ [P, NL, l0, l1, l2, Tb])) → x ∉ ks := by
    intro x o a ⟨n1, n2, n3⟩ hx
    obtain ⟨o', e, hc⟩ := hk x hx
    rw [a.1] at e
    cases e
    rcases hc with hc | hc | ⟨hc, hm⟩
    · exact n1 hc
    · exact n2 hc
    · exact hm (n3 hc)
  have row : ∀ a ∈ ks, ∀ o, h.get? a = some o → o.cls ≠ .type "tuple" := by
    intro a ha o e z
    obtain ⟨o', e', hc⟩ := hk a ha
    rw [e] at e'
    cases e'
    rcases hc with hc | hc | ⟨hc, _⟩ <;> rw [z] at hc <;> simp at hc
  have lst : ∀ {x vs n}, At w h x (lstO vs n) → x ∈ [P, NL, l0, l1, l2, Tb] → At w h' x (lstO vs n) := fun a m => a.kp K (off a ⟨by simp, by simp, fun _ => m⟩)
  have dct : ∀ {x a b c d}, At w h x (dctO a b c d) → At w h' x (dctO a b c d) := fun a => a.kp K (off a ⟨by simp, by simp, fun z => by simp at z⟩)
  exact ⟨G', X.aC.kp K (off X.aC ⟨by simp, by simp, fun z => by simp at z⟩), lst X.aP (by simp), lst X.aN (by simp), lst X.b0 (by simp), lst X.b1 (by simp), lst X.b2 (by simp), lst X.aT (by simp), dct X.e0, dct X.e1, dct X.e2, X.q0.kpc K row, X.q1.kpc K row, X.q2.kpc K row, X.rT.kpc K row⟩
def sd6 (a b : Nat) : List Bool := [decide (a < b), decide (a ≤ b), decide (b < a), decide (b ≤ a), decide (a = b), decide (a ≠ b)]
theorem hk0 {P : Addr → Obj → Prop} : ∀ a ∈ ([] : List Addr), ∃ o, h.get? a = some o ∧ P a o := fun _ h => (nomatch h)
theorem hk1 {x : Addr} {o : Obj} {P : Addr → Obj → Prop} (e : h.get? x = some o) (p : P x o) : ∀ a ∈ [x], ∃ o, h.get? a = some o ∧ P a o := by
  intro a ha
  rw [List.mem_singleton.mp ha]
  exact ⟨o, e, p⟩
theorem hk2 {x y : Addr} {o o' : Obj} {P : Addr → Obj → Prop} (e : h.get? x = some o) (p : P x o) (e' : h.get? y = some o') (p' : P y o') : ∀ a ∈ [x, y], ∃ o, h.get? a = some o ∧ P a o := by
  intro a ha
  rcases List.mem_cons.mp ha with rfl | ha
  · exact ⟨o, e, p⟩
  · rw [List.mem_singleton.mp ha]
    exact ⟨o', e', p'⟩
theorem nin2 {x a b : Addr} (h1 : x ≠ a) (h2 : x ≠ b) : x ∉ [a, b] := nin2' h1 h2
theorem ntup {x : Addr} {o : Obj} (e : h.get? x = some o) (c : o.cls ≠ .type "tuple") : ∀ a ∈ [x], ∀ o, h.get? a = some o → o.cls ≠ .type "tuple" := by
  intro a ha o' e'
  rw [List.mem_singleton.mp ha, e] at e'
  cases e'; exact c
theorem se1 (a b : Nat) : decide ((a : Int) < b) = decide (a < b) := decide_eq_decide.mpr (by omega)
theorem se2 (a b : Nat) : decide ((a : Int) ≤ b) = decide (a ≤ b) := decide_eq_decide.mpr (by omega)
theorem se5 (a b : Nat) : ((a : Int) == b) = decide (a = b) := by
  rw [Bool.eq_iff_iff, beq_iff_eq, decide_eq_true_eq]; omega
theorem se6 (a b : Nat) : ((a : Int) != b) = decide (a ≠ b) := by
  rw [Bool.eq_iff_iff, bne_iff_ne, decide_eq_true_eq]; omega
theorem turn_spec {P Tb p0 p1 p2 : Addr} {m nu ld nP nT i j a b : Nat} {u1 u2 u3 : Tok} {ps tqs : List Addr} {f0 f1 f2 : Int} {r0 r1 r2 : List Nat}
    (hA : A.handled = none) (hd : A.depth + 200 < recursionLimit) (hu : A.units + 400 < cLine) (G : Gd w h) (aP : At w h P (lstO (ps.map .ref) nP)) (aT : At w h Tb (lstO (tqs.map .ref) nT)) (rT : Row w h tqs pcs)
    (x0 : Acc w h p0 f0 (r0.map pc)) (x1 : Acc w h p1 f1 (r1.map pc)) (x2 : Acc w h p2 f2 (r2.map pc)) (n01 : p0 ≠ p1) (n02 : p0 ≠ p2) (n12 : p1 ≠ p2)
    (e0 : ps[m]? = some p0) (e1 : ps[m + 1]? = some p1) (e2 : ps[m + 2]? = some p2) (hps : ps.length ≤ 100) (hr0 : r0.length ≤ 8) (hr1 : r1.length ≤ 8) (hr2 : r2.length ≤ 8) (h8 : ∀ x ∈ r1, x < 8) (hr : 2 ≤ r1.length) (hnu : nu < 2 ^ 60) (hld : ld < 4)
    (hi : i = tI r1.length nu) (hj : j = tJ r1.length nu) (ea : r1[i]? = some a) (eb : r1[j]? = some b)
    (k : ∀ h' tk', Kp [p0, p1, p2] h h' → Gd w h' → Acc w h' p0 f0 ((r0 ++ [if (sd6 a b).getD ld false then a else b]).map pc) → Acc w h' p1 f1 ((Chip.cutR i j r1).map pc) → Acc w h' p2 f2 ((r2 ++ [if (sd6 a b).getD ld false then b else a]).map pc) → R (.ok (.ret (.bool true))) ⟨h', g, dr, tk', os⟩) :
    codeAny (model pw w) A (.call (.ref 171) ⟨[.ref P, .int (m + 1 : Nat) u1, .int nu u2, .int ld u3, .ref Tb], []⟩) R ⟨h, g, dr, tk, os⟩ := by
  obtain ⟨y0, d0, n0, qs0, s0, t0, t0', rfl, ap0, ad0, q0⟩ := x0
  obtain ⟨p1, d1, n1, qs1, s1, t1, t1', rfl, ap1, ad1, q1⟩ := x1
  obtain ⟨y2, d2, n2, qs2, s2, t2, t2', rfl, ap2, ad2, q2⟩ := x2
  have L0 : qs0.length = r0.length := by rw [q0.length, List.length_map]
  have L1 : qs1.length = r1.length := by rw [q1.length, List.length_map]
  have L2 : qs2.length = r2.length := by rw [q2.length, List.length_map]
  rw [← L1] at hi hj
  have hij : i < j := by rw [hi, hj]; unfold tJ; omega
  have hjl : j < r1.length := (List.getElem?_eq_some_iff.mp eb).1
  have ha8 : a < 8 := h8 a (List.mem_of_getElem? ea)
  have hb8 : b < 8 := h8 b (List.mem_of_getElem? eb)
  obtain ⟨qa, hqa⟩ : ∃ qa, qs1[i]? = some qa := ⟨_, List.getElem?_eq_getElem (by omega)⟩
  obtain ⟨qb, hqb⟩ : ∃ qb, qs1[j]? = some qb := ⟨_, List.getElem?_eq_getElem (by omega)⟩
  have tupA : ∀ {h' : Heap}, Row w h' qs1 (r1.map pc) → Tup w h' qa (pc a) := fun q => by
    obtain ⟨c, hc, t⟩ := q.get hqa
    rw [List.getElem?_map, ea] at hc
    cases hc; exact t
  have tupB : ∀ {h' : Heap}, Row w h' qs1 (r1.map pc) → Tup w h' qb (pc b) := fun q => by
    obtain ⟨c, hc, t⟩ := q.get hqb
    rw [List.getElem?_map, eb] at hc
    cases hc; exact t
  obtain ⟨sb, hsb⟩ : ∃ sb, sb = (sd6 a b).getD ld false := ⟨_, rfl⟩
  have hsb' : (sd6 a b)[ld]? = some sb := by
    have : ld < (sd6 a b).length := by simp [sd6]; omega
    rw [hsb, List.getD_eq_getElem?_getD, List.getElem?_eq_getElem this]; rfl
  rw [← hsb] at k
  subst hi hj
  refine turn_a (p0 := _) (d0 := d0) (d1 := d1) (d2 := d2) hA (by omega) G aP ap0 ap1 ap2 e0 e1 e2 hps (by omega) (by omega) (by omega) ?_
  intro h1 tk1 F H1 K1' en1 NL l0 l1 l2 kn k0 k1 k2 K1 G1 aF cC cN c0 c1 c2 fF nd fl1
  have X : Hold w h1 F P NL l0 l1 l2 Tb d0 d1 d2 ps qs0 qs1 qs2 tqs nP kn k0 k1 k2 nT s0 f0 s1 f1 s2 f2 t0 t0' t1 t1' t2 t2' (r0.map pc) (r1.map pc) (r2.map pc) :=
    ⟨G1, cC, aP.kp K1 (nin0 _), cN, c0, c1, c2, aT.kp K1 (nin0 _), ad0.kp K1 (nin0 _), ad1.kp K1 (nin0 _), ad2.kp K1 (nin0 _), q0.kp0 K1, q1.kp0 K1, q2.kp0 K1, rT.kp0 K1⟩
  have nT1 : l1 ≠ Tb := old_ne aT.1 fl1
  have nN1 : NL ≠ l1 := fun z => by rw [z] at nd; simp at nd
  replace ap0 := ap0.kp K1 (nin0 _)
  replace ap1 := ap1.kp K1 (nin0 _)
  replace ap2 := ap2.kp K1 (nin0 _)
  have KK : Kp [F, y0 + 182, p1 + 182, y2 + 182] h h1 := K1.weak (by simp)
  clear cC cN c0 c1 c2 aP aT q0 q1 q2 rT ad0 ad1 ad2 K1 G1
  have hil : tI qs1.length nu < qs1.length := by omega
  have rl : (r1.map pc).length = r1.length := List.length_map ..
  have sk0 : qs0.length ≤ 100 := by omega
  have sk1 : qs1.length ≤ 100 := by omega
  have sk2 : qs2.length ≤ 100 := by omega
  have sk3 : (qs1.drop (tI qs1.length nu)).length ≤ 100 := by rw [List.length_drop]; omega
  refine turn_b (by exact hA) X.G aF X.aN X.b1 (by omega) sk1 nN1 hnu ?_
  intro h2 tk2 H2 K2' en2 u4 u5 K2 G2 bF
  replace KK := KK.trans (K2.weak (ks' := [F, y0 + 182, p1 + 182, y2 + 182]) (by simp)) fun _ _ _ q => q
  replace X := X.kp G2 K2 (hk1 aF.1 (.inl rfl))
  replace ap0 := ap0.kp K2 (nin1 (ne_of_cls ap0.1 aF.1 (by kernel_rfl)))
  replace ap1 := ap1.kp K2 (nin1 (ne_of_cls ap1.1 aF.1 (by kernel_rfl)))
  replace ap2 := ap2.kp K2 (nin1 (ne_of_cls ap2.1 aF.1 (by kernel_rfl)))
  clear aF G2 K2
  refine turn_c (p := p1) (by exact hA) (by show A.depth + 1 + 40 < _; omega) X.G bF X.aC X.aP ap1 X.e1 e1 hps sk1 (by omega) ?_
  intro h3 tk3 H3 K3' en3 hn n3 K3 G3 cF ch fh cp1
  have nh : hn ∉ [P, NL, l0, l1, l2, Tb] := by
    simp only [List.mem_cons, List.not_mem_nil, or_false, not_or]
    exact ⟨old_ne X.aP.1 fh, old_ne X.aN.1 fh, old_ne X.b0.1 fh, old_ne X.b1.1 fh, old_ne X.b2.1 fh, old_ne X.aT.1 fh⟩
  have fhn := KK.fresh fh
  have nlh : l1 ≠ hn := Ne.symm (old_ne X.b1.1 fh)
  replace KK := KK.trans (K3.weak (ks' := [F, y0 + 182, p1 + 182, y2 + 182]) (by simp)) fun _ _ _ q => q
  replace X := X.kp G3 K3 (hk2 bF.1 (.inl rfl) ap1.1 (.inr (.inl rfl)))
  replace ap0 := ap0.kp K3 (nin2 (ne_of_cls ap0.1 bF.1 (by kernel_rfl)) n01)
  replace ap2 := ap2.kp K3 (nin2 (ne_of_cls ap2.1 bF.1 (by kernel_rfl)) (Ne.symm n12))
  clear bF ap1 fh K3 G3
  refine turn_d (by exact hA) (by show A.units + 3 + 300 < _; omega) X.G cF X.b1 ch nlh sk1 (by omega) ?_
  intro h4 tk4 K4 G4
  replace KK := KK.trans (K4.weak (ks' := [F, y0 + 182, p1 + 182, y2 + 182]) (by simp)) fun _ _ _ q => q
  replace X := X.kp G4 K4 hk0
  replace ap0 := ap0.kp K4 (nin0 _)
  replace cp1 := cp1.kp K4 (nin0 _)
  replace ap2 := ap2.kp K4 (nin0 _)
  replace cF := cF.kp K4 (nin0 _)
  replace ch := ch.kp K4 (nin0 _)
  clear K4 G4
  have ha0 : (qs1.drop (tI qs1.length nu))[0]? = some qa := by rw [List.getElem?_drop, Nat.add_zero]; exact hqa
  have hb0 : (qs1.drop (tI qs1.length nu))[tJ qs1.length nu - tI qs1.length nu]? = some qb := by rw [List.getElem?_drop, show tI qs1.length nu + (tJ qs1.length nu - tI qs1.length nu) = tJ qs1.length nu by omega]; exact hqb
  refine turn_e (hs := qs1.drop (tI qs1.length nu)) (ca := pc a) (cb := pc b) (by exact hA) (by show A.depth + 1 + 40 < _; omega) (by show A.units + 3 + 300 < _; omega) X.G cF ch ha0 hb0 (by omega) (tupA X.q1) (tupB X.q1) sk3 ?_
  intro h5 tk5 H5 K5' en5 sd K5 G5 dF as fs
  rw [said_eq ha8 hb8] at as
  have nsh : sd ≠ hn := old_ne ch.1 fs
  replace KK := KK.trans (K5.weak (ks' := [F, y0 + 182, p1 + 182, y2 + 182]) (by simp)) fun _ _ _ q => q
  replace X := X.kp G5 K5 (hk1 cF.1 (.inl rfl))
  replace ap0 := ap0.kp K5 (nin1 (ne_of_cls ap0.1 cF.1 (by kernel_rfl)))
  replace cp1 := cp1.kp K5 (nin1 (ne_of_cls cp1.1 cF.1 (by kernel_rfl)))
  replace ap2 := ap2.kp K5 (nin1 (ne_of_cls ap2.1 cF.1 (by kernel_rfl)))
  replace ch := ch.kp K5 (nin1 (ne_of_cls ch.1 cF.1 (by kernel_rfl)))
  clear cF fs K5 G5
  refine turn_f (by exact hA) (by show A.units + 3 + 300 < _; omega) X.G dF X.b1 X.aT X.rT hqa hqb (tupA X.q1) (tupB X.q1) ha8 hb8 sk1 nT1 ?_
  intro h6 tk6 H6 K6' en6 u6 u7 K6 G6 eF
  replace KK := KK.trans (K6.weak (ks' := [F, y0 + 182, p1 + 182, y2 + 182]) (by simp)) fun _ _ _ q => q
  replace X := X.kp G6 K6 (hk1 dF.1 (.inl rfl))
  replace ap0 := ap0.kp K6 (nin1 (ne_of_cls ap0.1 dF.1 (by kernel_rfl)))
  replace cp1 := cp1.kp K6 (nin1 (ne_of_cls cp1.1 dF.1 (by kernel_rfl)))
  replace ap2 := ap2.kp K6 (nin1 (ne_of_cls ap2.1 dF.1 (by kernel_rfl)))
  replace ch := ch.kp K6 (nin1 (ne_of_cls ch.1 dF.1 (by kernel_rfl)))
  replace as := as.kp K6 (nin1 (ne_of_cls as.1 dF.1 (by kernel_rfl)))
  clear dF K6 G6
  refine turn_g (by exact hA) (by show A.depth + 1 + 40 < _; omega) (by show A.units + 3 + 300 < _; omega) X.G eF as (se1 a b) (se2 a b) (se1 b a) (se2 b a) (se5 a b) (se6 a b) ?_
  intro h7 tk7 K7 G7
  replace KK := KK.trans (K7.weak (ks' := [F, y0 + 182, p1 + 182, y2 + 182]) (by simp)) fun _ _ _ q => q
  replace X := X.kp G7 K7 hk0
  replace ap0 := ap0.kp K7 (nin0 _)
  replace cp1 := cp1.kp K7 (nin0 _)
  replace ap2 := ap2.kp K7 (nin0 _)
  replace eF := eF.kp K7 (nin0 _)
  replace ch := ch.kp K7 (nin0 _)
  replace as := as.kp K7 (nin0 _)
  clear K7 G7
  refine turn_h (by exact hA) (by show A.depth + 1 + 40 < _; omega) X.G eF ch (by omega) (by rw [List.length_drop]; omega) (by rw [List.length_drop]; omega) sk3 ?_
  intro h8' tk8 kh8 K8 G8 eh
  replace KK := KK.trans K8 fun x o e q => by
    rw [List.mem_singleton.mp q, fhn] at e; cases e
  replace X := X.kp G8 K8 (hk1 ch.1 (.inr (.inr ⟨rfl, nh⟩)))
  replace ap0 := ap0.kp K8 (nin1 (ne_of_cls ap0.1 ch.1 (by kernel_rfl)))
  replace cp1 := cp1.kp K8 (nin1 (ne_of_cls cp1.1 ch.1 (by kernel_rfl)))
  replace ap2 := ap2.kp K8 (nin1 (ne_of_cls ap2.1 ch.1 (by kernel_rfl)))
  replace eF := eF.kp K8 (nin1 (ne_of_cls eF.1 ch.1 (by kernel_rfl)))
  replace as := as.kp K8 (nin1 nsh)
  clear ch K8 G8
  have sk4 : (qs1.take (tI qs1.length nu)).length + (((qs1.drop (tI qs1.length nu)).eraseIdx (tJ qs1.length nu - tI qs1.length nu)).eraseIdx 0).length ≤ 100 := by
    have l1 := List.length_eraseIdx_le (((qs1.drop (tI qs1.length nu)).eraseIdx (tJ qs1.length nu - tI qs1.length nu))) 0
    have l2 := List.length_eraseIdx_le (qs1.drop (tI qs1.length nu)) (tJ qs1.length nu - tI qs1.length nu)
    rw [List.length_drop] at l2
    rw [List.length_take]; omega
  refine turn_i (p := p1 + 182) (d := d1) (by exact hA) (by show A.depth + 1 + 100 < _; omega) X.G eF X.aC X.aP cp1 X.e1 eh e1 hps (X.q1.take (tI qs1.length nu)) (((X.q1.drop (tI qs1.length nu)).erase (tJ qs1.length nu - tI qs1.length nu)).erase 0) sk4 ?_
  intro h9 tk9 pz H9 K9' en9 n9 qs9 K9 G9 hpz fF' fp1 rq9
  replace KK := KK.trans (K9.weak (ks' := [F, y0 + 182, p1 + 182, y2 + 182]) (by simp)) fun _ _ _ q => q
  replace X := X.kp G9 K9 (hk2 eF.1 (.inl rfl) cp1.1 (.inr (.inl rfl)))
  replace ap0 := ap0.kp K9 (nin2 (ne_of_cls ap0.1 eF.1 (by kernel_rfl)) n01)
  replace ap2 := ap2.kp K9 (nin2 (ne_of_cls ap2.1 eF.1 (by kernel_rfl)) (Ne.symm n12))
  replace as := as.kp K9 (nin2 (ne_of_cls as.1 eF.1 (by kernel_rfl)) (ne_of_cls as.1 cp1.1 (by kernel_rfl)))
  clear eF cp1 eh K9 G9
  refine turn_j (bs := sd6 a b) (sb := sb) (by exact hA) X.G hpz fF' as hsb' (by simp [sd6]) ?_
  intro h10 tk10 H10 K10' en10 K10 G10 gF
  replace KK := KK.trans (K10.weak (ks' := [F, y0 + 182, p1 + 182, y2 + 182]) (by simp)) fun _ _ _ q => q
  replace X := X.kp G10 K10 (hk1 fF'.1 (.inl rfl))
  replace ap0 := ap0.kp K10 (nin1 (ne_of_cls ap0.1 fF'.1 (by kernel_rfl)))
  replace fp1 := fp1.kp K10 (nin1 (ne_of_cls fp1.1 fF'.1 (by kernel_rfl)))
  replace ap2 := ap2.kp K10 (nin1 (ne_of_cls ap2.1 fF'.1 (by kernel_rfl)))
  replace rq9 := rq9.kpc K10 (ntup fF'.1 (by simp))
  clear fF' as K10 G10
  have tql : ∀ {h' : Heap}, Row w h' qs1 (r1.map pc) → Tup w h' (if sb then qa else qb) (pc (if sb then a else b)) := fun q => by
    cases sb
    · exact tupB q
    · exact tupA q
  have tqr : ∀ {h' : Heap}, Row w h' qs1 (r1.map pc) → Tup w h' (if sb then qb else qa) (pc (if sb then b else a)) := fun q => by
    cases sb
    · exact tupA q
    · exact tupB q
  refine turn_k (d := d0) (by exact hA) (by show A.depth + 1 + 100 < _; omega) X.G hpz gF X.aC X.aP ap0 X.e0 (tql X.q1) (by omega) (by rw [Nat.add_sub_cancel]; exact e0) hps sk0 ?_
  intro h11 tk11 n11 q11 K11 G11 hp0 tq11 fq11
  replace KK := KK.trans (K11.weak (ks' := [F, y0 + 182, p1 + 182, y2 + 182]) (by simp)) fun _ _ _ q => q
  replace X := X.kp G11 K11 (hk1 ap0.1 (.inr (.inl rfl)))
  replace fp1 := fp1.kp K11 (nin1 (Ne.symm n01))
  replace ap2 := ap2.kp K11 (nin1 (Ne.symm n02))
  replace gF := gF.kp K11 (nin1 (ne_of_cls gF.1 ap0.1 (by kernel_rfl)))
  replace rq9 := rq9.kpc K11 (ntup ap0.1 (by simp))
  have rq0 := X.q0.app (.cons tq11 .nil)
  clear ap0 K11 G11 tq11
  refine turn_l (d := d2) (by exact hA) (by show A.depth + 1 + 100 < _; omega) X.G hpz gF X.aC X.aP ap2 X.e2 (tqr X.q1) (by omega) e2 hps sk2 ?_
  intro h12 tk12 n12' q12 K12 G12 hp2 tq12 fq12
  replace KK := KK.trans (K12.weak (ks' := [F, y0 + 182, p1 + 182, y2 + 182]) (by simp)) fun _ _ _ q => q
  replace X := X.kp G12 K12 (hk1 ap2.1 (.inr (.inl rfl)))
  replace fp1 := fp1.kp K12 (nin1 n12)
  replace hp0 := hp0.kp K12 (nin1 n02)
  replace gF := gF.kp K12 (nin1 (ne_of_cls gF.1 ap2.1 (by kernel_rfl)))
  replace rq9 := rq9.kpc K12 (ntup ap2.1 (by simp))
  replace rq0 := rq0.kpc K12 (ntup ap2.1 (by simp))
  have rq2 := X.q2.app (.cons tq12 .nil)
  clear ap2 K12 G12 tq12
  refine turn_m (by exact hA) X.G hpz gF X.aN X.b0 X.b1 X.b2 nd sk0 sk1 sk2 hij (by omega) ?_
  intro h13 tk13 H13 K13' en13 du w0 w1 w2 K13 G13 iF ad v0 v1 v2
  replace KK := KK.trans (K13.weak (ks' := [F, y0 + 182, p1 + 182, y2 + 182]) (by simp)) fun _ _ _ q => q
  replace X := X.kp G13 K13 (hk1 gF.1 (.inl rfl))
  replace hp0 := hp0.kp K13 (nin1 (ne_of_cls hp0.1 gF.1 (by kernel_rfl)))
  replace fp1 := fp1.kp K13 (nin1 (ne_of_cls fp1.1 gF.1 (by kernel_rfl)))
  replace hp2 := hp2.kp K13 (nin1 (ne_of_cls hp2.1 gF.1 (by kernel_rfl)))
  replace rq0 := rq0.kpc K13 (ntup gF.1 (by simp))
  replace rq2 := rq2.kpc K13 (ntup gF.1 (by simp))
  replace rq9 := rq9.kpc K13 (ntup gF.1 (by simp))
  clear gF K13 G13
  have rw0 := X.q0.app (.cons (tql X.q1) .nil)
  have rw2 := X.q2.app (.cons (tqr X.q1) .nil)
  have rw1 := ((X.q1.take (tI qs1.length nu)).app ((X.q1.drop (tI qs1.length nu + 1)).take (tJ qs1.length nu - (tI qs1.length nu + 1)))).app (X.q1.drop (tJ qs1.length nu + 1))
  rw [cut_due (r := r1.map pc) hij (by omega)] at rw1
  have sk9 : qs9.length ≤ 100 := by
    have := Chip.cutR_len hij (r := r1.map pc) (by omega)
    rw [rq9.length]
    show (Chip.cutR _ _ (r1.map pc)).length ≤ 100
    omega
  refine turn_n (by exact hA) (by show A.units + 3 + 300 < _; omega) X.G hpz iF X.aC X.aP hp0 fp1 hp2 rq0 rq9 rq2 ad v0 v1 v2 rw0 rw1 rw2 e0 e1 e2 hps (by simp; omega) sk9 (by simp; omega) ?_
  intro h14 tk14 K14 G14
  replace KK := KK.trans (K14.weak (ks' := [F, y0 + 182, p1 + 182, y2 + 182]) (by simp)) fun _ _ _ q => q
  have KF : Kp [y0 + 182, p1 + 182, y2 + 182] h h14 := KK.only fun x hx hn' o e => by
    rcases List.mem_cons.mp hx with rfl | hx
    · rw [fF] at e; cases e
    · exact absurd hx hn'
  refine k h14 tk14 KF G14 ⟨y0, d0, _, _, _, _, _, rfl, hp0.kp K14 (nin0 _), X.e0.kp K14 (nin0 _), ?_⟩ ⟨p1, d1, _, _, _, _, _, rfl, fp1.kp K14 (nin0 _), X.e1.kp K14 (nin0 _), ?_⟩ ⟨y2, d2, _, _, _, _, _, rfl, hp2.kp K14 (nin0 _), X.e2.kp K14 (nin0 _), ?_⟩
  · rw [List.map_append]; exact rq0.kp0 K14
  · rw [Chip.cutR_map]; exact rq9.kp0 K14
  · rw [List.map_append]; exact rq2.kp0 K14
noncomputable abbrev B176 (w : World) : List Stmt := bodyAt (fdOf (slook (KTw w) 176))
noncomputable abbrev E176 (w : World) (F : Addr) : Env := envAt 176 (fdOf (slook (KTw w) 176)) F
def asV : List Stmt → PySem.Expr
  | .Assign _ v _ :: _ => v
  | _ => noE
def caArg (x : PySem.Expr) (i : Nat) : PySem.Expr := match x with
  | .Call _ as _ _ => as.getD i noE
  | _ => noE
def biL : PySem.Expr → PySem.Expr
  | .BinOp l _ _ _ => l
  | _ => noE
def biR : PySem.Expr → PySem.Expr
  | .BinOp _ _ r _ => r
  | _ => noE
theorem mul_spec {prog : Program} {x y : Int} {t u : Tok} (hx : 0 ≤ x) (hx2 : x ≤ 1000) (k : ∀ tk' v, R (.ok (.ret (.int (x * y) v))) ⟨h, g, dr, tk', os⟩) :
    codeAny (model prog w) A (.call (.builtin "int.__mul__") ⟨[.int x t, .int y u], []⟩) R ⟨h, g, dr, tk, os⟩ := by
  refine hk_gives F.slot_int_mul (typeIs_int _ _ _) F.entry_int_mul (F.args_int_mul_2 _ _) (AutoIntG1.int___mul___int_int_0 _ t _ u (.of_left (intBits_le_64 (by omega) (by omega)))) ?_
  exact k _ _
inductive NatsAre : List Value → List Nat → Prop
  | nil : NatsAre [] []
  | cons (n : Nat) (t : Tok) {vs : List Value} {ns : List Nat} : NatsAre vs ns → NatsAre (.int (n : Nat) t :: vs) (n :: ns)
theorem NatsAre.length {vs : List Value} {ns : List Nat} (x : NatsAre vs ns) : vs.length = ns.length := by
  induction x with
  | nil => rfl
  | cons _ _ _ ih => simp [ih]
theorem NatsAre.get {vs : List Value} {ns : List Nat} (x : NatsAre vs ns) {i n : Nat} (e : ns[i]? = some n) : ∃ t, vs[i]? = some (.int (n : Nat) t) := by
  induction x generalizing i with
  | nil => simp at e
  | cons m t _ ih =>
    cases i with
    | zero =>
      simp only [List.getElem?_cons_zero, Option.some.injEq] at e
      subst e; exact ⟨t, rfl⟩
    | succ i => exact ih (by simpa using e)
theorem NatsAre.ints {vs : List Value} {ns : List Nat} (x : NatsAre vs ns) : IntsAre vs (ns.map (fun n : Nat => (n : Int))) := by
  induction x with
  | nil => exact .nil
  | cons n t _ ih => exact .cons _ t ih
theorem NatsAre.of_ints : ∀ {vs : List Value} {ns : List Nat}, IntsAre vs (ns.map (fun n : Nat => (n : Int))) → NatsAre vs ns
  | _, [], h => by cases h; exact .nil
  | _, n :: ns, h => by
    simp only [List.map_cons] at h
    cases h with
    | cons _ t h => exact .cons n t (NatsAre.of_ints h)
theorem NatsAre.app {vs vs2 : List Value} {ns ns2 : List Nat} (x : NatsAre vs ns) (y : NatsAre vs2 ns2) : NatsAre (vs ++ vs2) (ns ++ ns2) := by
  induction x with
  | nil => exact y
  | cons n t _ ih => exact .cons n t ih
theorem NatsAre.take {vs : List Value} {ns : List Nat} (x : NatsAre vs ns) : ∀ m, NatsAre (vs.take m) (ns.take m) := by
  induction x with
  | nil => intro m; simp only [List.take_nil]; exact .nil
  | cons n t _ ih =>
    intro m
    cases m with
    | zero => exact .nil
    | succ m => exact .cons n t (ih m)
theorem NatsAre.drop {vs : List Value} {ns : List Nat} (x : NatsAre vs ns) : ∀ m, NatsAre (vs.drop m) (ns.drop m) := by
  induction x with
  | nil => intro m; simp only [List.drop_nil]; exact .nil
  | cons n t r ih =>
    intro m
    cases m with
    | zero => exact .cons n t r
    | succ m => exact ih m
theorem NatsAre.reverse {vs : List Value} {ns : List Nat} (x : NatsAre vs ns) : NatsAre vs.reverse ns.reverse := by
  induction x with
  | nil => exact .nil
  | cons n t _ ih => simp only [List.reverse_cons]; exact ih.app (.cons n t .nil)
abbrev riO (a b : Int) : Obj := { cls := .type "range_iterator", data := .fields #[.int a 0, .int b 0, .int 1 0] }
theorem ri_next_some {prog : Program} {it : Addr} {a b : Int}
    (hi : h.get? it = some (riO a b)) (hb : 0 < b)
    (k : ∀ h' tk' t, Kp [it] h h' → h'.get? it = some (riO (a + 1) (b - 1)) → R (.ok (.ret (.int a t))) ⟨h', g, dr, tk', os⟩) :
    codeAny (model prog w) A (.call (.builtin "range_iterator.__next__") ⟨[.ref it], []⟩) R ⟨h, g, dr, tk, os⟩ := by
  refine hk_meets F.slot_range_iterator_next ⟨_, hi, rfl⟩ (entryFor_of_tree (by kernel_rfl)) (by unfold argsOk; kernel_rfl) (AutoRange.range_iterator___next___range_iterator_1 it a b 1 (by omega)) ⟨hi, ?_⟩
  have g1 := Heap.get?_update_self (Obj.mapFields fun x_1 => x_1.setIfInBounds 0 (rawInt (a + 1))) hi rfl
  have k1 := (Kp.refl [] h).upd (f := Obj.mapFields fun x_1 => x_1.setIfInBounds 0 (rawInt (a + 1))) hi rfl
  have g2 := Heap.get?_update_self (Obj.mapFields fun x => x.setIfInBounds 1 (rawInt (b - 1))) g1 rfl
  have k2 := (Kp.refl [] (h.update it (Obj.mapFields fun x_1 => x_1.setIfInBounds 0 (rawInt (a + 1))))).upd (f := Obj.mapFields fun x => x.setIfInBounds 1 (rawInt (b - 1))) g1 rfl
  exact k _ _ _ (k1.trans k2 fun _ _ _ q => q) g2
theorem ri_next_none {it : Addr} {a b : Int}
    (hA : A.handled = none) (G : Gd w h) (hi : At w h it (riO a b)) (hb : b ≤ 0)
    (k : ∀ h' tk' e t, Kp [] h h' → At w h' e (stopO t) → h.get? e = none → R (.error (.ref e)) ⟨h', g, dr, tk', os⟩) :
    codeAny (model pw w) A (.call (.builtin "range_iterator.__next__") ⟨[.ref it], []⟩) R ⟨h, g, dr, tk, os⟩ := by
  have D := Rep.init (T := [(it, riO a b)]) G (by simpa using hi) (by simp)
  have hoff := hi.2
  refine codeAny_call_builtin_at (b := Builtin.«range_iterator.__next__») (by kernel_rfl) (entryFor_of_tree (by kernel_rfl)) ?_
  refine top_any (R := R) (fun _ => .done .next) ?_
  intro θ
  refine eng 1 1 (by exact hA) D (by kernel_rfl) ?_
  intro χ1 h1' D1
  refine finQ (f := .done .next) (by kernel_rfl) ?_
  intro _ _
  have hp := D1.at (j := 0) (x := (it, riO a b)) (by kernel_rfl)
  have K1 : Kp [] h h1' := D.ro D1 (by kernel_rfl) rfl
  have G1 := D1.gd
  clear D1
  dsimp only at hp
  generalize tk + Cf.i _ = tk'
  show wpAny _ _ (do
    let .int v _ ← field (.ref it) 0 | unsupported _
    let .int left _ ← field (.ref it) 1 | unsupported _
    let .int step _ ← field (.ref it) 2 | unsupported _
    if left ≤ 0 then rule _; SmallTypes.stopIteration
    setField (.ref it) 0 (rawInt (v + step)); setField (.ref it) 1 (rawInt (left - 1))
    retInt v) _ _ _
  refine wpAny_bind (wpAny_field hp rfl (x := .int a 0) rfl ?_)
  refine wpAny_bind (wpAny_field hp rfl (x := .int b 0) rfl ?_)
  refine wpAny_bind (wpAny_field hp rfl (x := .int 1 0) rfl ?_)
  dsimp only
  rw [if_pos hb]
  refine wpAny_bind (wpAny_rule ?_)
  refine wpAny_bind (m := SmallTypes.stopIteration) ?_
  unfold SmallTypes.stopIteration
  refine wpAny_bind ?_
  simp only [newExc, newTuple]
  refine wpAny_bind (wpAny_newObj_type ?_ (by size_fits))
  refine wpAny_bind (m := firstArgMember _ _) (wpAny_of_eq (a := Value.none) (by first | rfl | (simp only [firstArgMember]; rfl)) ?_)
  refine wpAny_newObj_type ?_ (by size_fits)
  simp only [raiseNew]
  refine wpAny_bind (wpAny_handled ?_)
  rw [show (A.under _).handled = none from hA]
  refine wpAny_throw ?_
  exact k _ _ _ h1'.objs.size ((K1.push _).push _)
    ⟨Heap.get?_push_size _ rfl, off_fresh (h := h1'.push _) (fun a o e => Heap.get?_push_of_some _ (G1 a o e)) (get_size _)⟩ ((K1.push _).fresh (get_size _))
theorem NatsAre.inv {v : Value} {rest : List Value} {ns : List Nat} (x : NatsAre (v :: rest) ns) : ∃ n t ns', v = .int (n : Nat) t ∧ ns = n :: ns' ∧ NatsAre rest ns' := by
  cases x with
  | cons n t x => exact ⟨n, t, _, rfl, rfl, x⟩
theorem ints_inv {v : Value} {rest : List Value} {ns : List Int} (x : IntsAre (v :: rest) ns) : ∃ n t ns', v = .int n t ∧ ns = n :: ns' ∧ IntsAre rest ns' := by
  cases x with
  | cons n t x => exact ⟨n, t, _, rfl, rfl, x⟩
theorem ints_len {vs : List Value} {ns : List Int} (x : IntsAre vs ns) : vs.length = ns.length := by
  induction x with
  | nil => rfl
  | cons _ _ _ ih => simp [ih]
theorem modI_spec {prog : Program} {x y : Int} {t u : Tok} (hb : 0 < y) (k : ∀ tk' v, R (.ok (.ret (.int (((x % y).toNat : Nat) : Int) v))) ⟨h, g, dr, tk', os⟩) :
    codeAny (model prog w) A (.call (.builtin "int.__mod__") ⟨[.int x t, .int y u], []⟩) R ⟨h, g, dr, tk, os⟩ := by
  refine hk_gives F.slot_int_mod (typeIs_int _ _ _) F.entry_int_mod (F.args_int_mod_2 _ _) (AutoIntG6.int___mod___int_int_1 _ t _ u (by simp; omega)) ?_
  have e : x.fmod y = (((x % y).toNat : Nat) : Int) := by
    rw [Int.fmod_eq_emod_of_nonneg _ (by omega)]
    have := Int.emod_nonneg x (show y ≠ 0 by omega)
    omega
  rw [e]
  exact k _ _
theorem pow_spec {prog : Program} {t u : Tok} (k : ∀ tk' v, R (.ok (.ret (.int 1000000000 v))) ⟨h, g, dr, tk', os⟩) :
    codeAny (model prog w) A (.call (.builtin "int.__pow__") ⟨[.int 10 t, .int 9 u], []⟩) R ⟨h, g, dr, tk, os⟩ := by
  refine hk_gives F.slot_int_pow (typeIs_int _ _ _) F.entry_int_pow (F.args_int_pow_2 _ _) (AutoIntG2.int___pow___int_int_4 10 t 9 u (by decide) (by decide) (by decide) (by decide) (by decide)) ?_
  exact k _ _
abbrev xS : Scope := ⟨.function, [(nDot, .local), ("x", .local)], false, false, []⟩
abbrev fdE (p1 p2 p3 p4 p5 : Pos) (iter : PySem.Expr) : PySem.Expr := .ListComp (.BinOp (.Name "x" p1) .FloorDiv (.Constant (.int 8) 0 p2) p3) [⟨.Name "x" p4, iter, [], 0⟩] xS p5
abbrev mdE (p1 p2 p3 p4 p5 p6 p7 : Pos) (iter : PySem.Expr) : PySem.Expr := .ListComp (.BinOp (.Name "x" p1) .Mod (.BinOp (.Constant (.int 10) 0 p2) .Pow (.Constant (.int 9) 0 p3) p4) p5) [⟨.Name "x" p6, iter, [], 0⟩] xS p7
theorem comp_fd_loop {L acc it src : Addr} {ns0 : Nat} {so : Obj} {vs : List Value} {gl : Addr} {q : Str} {f : Option Addr} {co : Value} {fr : Option Addr} {bi : Addr} {iter : PySem.Expr} {p1 p2 p3 p4 p5 : Pos}
    (hA : A.handled = none)  (hsd : so.data = .seq vs.toArray ns0) :
    ∀ (rest : List Value) (ns : List Nat) (hI : NatsAre rest ns) (i : Nat) (h : Heap) (tk : Nat) (na en : Nat) (ys : Array Value) (es : Array DictEntry) (ti : Tok), vs.drop i = rest → ys.size + rest.length ≤ 500 → OneOf "x" es →
    Gd w h → At w h L (nsO es en) → At w h acc (lstX ys na) → At w h it (liO (.ref src) (.int i ti)) → At w h src so → src ∉ [L, acc, it] →
    (∀ h' tk' es' en' na' v (zs : List Value), Kp [L, acc, it] h h' → Gd w h' → OneOf "x" es' → At w h' L (nsO es' en') → NatsAre zs (ns.map (· / 8)) → At w h' acc (lstX (ys ++ zs.toArray) na') → At w h' it (liO .none v) → R (.ok .next) ⟨h', g, dr, tk', os⟩) →
    codeAny (model pw w) A (.compLoop (fdE p1 p2 p3 p4 p5 iter) 0 (.ref it) (.ref acc) (cEnv xS L gl [] q f co fr bi)) R ⟨h, g, dr, tk, os⟩ := by
  intro rest
  induction rest with
  | nil =>
    intro ns hI i h tk na en ys es ti hr hsz hes G aL aA aI hs hn  k
    cases hI
    obtain ⟨Z, D⟩ : ∃ Z, Rep (KTw w) h [L, acc, it] h [(L, nsO es en), (acc, lstX ys na), (it, liO (.ref src) (.int i ti))] Z := Rep.initC (T := [(L, nsO es en), (acc, lstX ys na), (it, liO (.ref src) (.int i ti))]) G (oc aL (oc aA (oc aI on))) (by kernel_rfl)
    refine Mine.start (Q := fun _ _ => True) (E := fun _ _ => True) ?_
    refine eng 2 768 (by exact hA) D (by kernel_rfl) ?_
    intro χ1 h1 D1
    refine hook (c' := .call (.builtin "list_iterator.__next__") ⟨[.ref it], []⟩) (by kernel_rfl) ?_
    have hi : vs.length ≤ i := List.drop_eq_nil_iff.mp hr
    refine li_next_none (i := i) (src := src) (ti := ti) (xs := vs.toArray) (n := ns0) (so := so) (ac_handled hA) D1.gd (D1.at_ 2 (by kernel_rfl)) (D1.keep.2 _ _ hs.1 hn) hsd (by simp [hi]) ?_
    intro h2 tk2 e t K2 a2 ae he
    refine Exists.elim ((D1.turnPlus (j := 2) (x := (it, liO (.ref src) (.int i ti))) (by kernel_rfl) K2 a2.1 ae he).ex) ?_
    intro Z2 D2
    refine eng 1 1 (by exact hA) D2 (by kernel_rfl) ?_
    intro χ3 h3 D3
    refine fin (f := .next) (by kernel_rfl) ?_
    refine k h3 _ es en na (.int i ti) [] D3.keep D3.gd hes (D3.at_ 1 (by kernel_rfl)) .nil ?_ (D3.at_ 3 (by kernel_rfl))
    have := D3.at_ (a := acc) (o := lstX ys na) 2 (by kernel_rfl)
    simpa using this
  | cons v rest ih =>
    intro ns hI i h tk na en ys es ti hr hsz hes G aL aA aI hs hn  k
    obtain ⟨n, t, ns, rfl, rfl, hI'⟩ := hI.inv
    have hv : vs.toArray[i]? = some (.int (n : Nat) t) := by
      have := List.head?_drop (l := vs) (i := i)
      rw [hr] at this
      simp [← this]
    have hr' : vs.drop (i + 1) = rest := by rw [← List.drop_drop, hr]; rfl
    have hsz' : ys.size + rest.length + 1 ≤ 500 := by simp only [List.length_cons] at hsz; omega
    have done : ∀ h6 tk6 (z : Value) hs6 t6 v6 en6 ti6, Gd w h6 → Kp [L, acc, it] h h6 → At w h6 L (nsO #[⟨hs6, .str "x" t6, v6⟩] en6) → At w h6 acc (lstX (ys.push z) (na + 1)) → At w h6 it (liO (.ref src) (.int (i + 1 : Nat) ti6)) → (∃ t, z = .int ((n / 8 : Nat) : Int) t) →
        codeAny (model pw w) A (.compLoop (fdE p1 p2 p3 p4 p5 iter) 0 (.ref it) (.ref acc) (cEnv xS L gl [] q f co fr bi)) R ⟨h6, g, dr, tk6, os⟩ := by
      intro h6 tk6 z hs6 t6 v6 en6 ti6 G6 K6 bL bA bI hz
      refine ih _ hI' (i + 1) h6 tk6 (na + 1) en6 (ys.push z) _ ti6 hr' (by simp only [Array.size_push]; omega) (.inr ⟨_, _, _, rfl⟩) G6 bL bA bI ⟨K6.2 _ _ hs.1 hn, hs.2⟩ hn  ?_
      intro h' tk' es' en' na' x zs K' G' a b' c' d' e'
      refine k h' tk' es' en' na' x (z :: zs) (K6.trans K' fun _ _ _ q => q) G' a b' (by obtain ⟨t, rfl⟩ := hz; exact .cons _ t c') ?_ e'
      have e : ys ++ (z :: zs).toArray = ys.push z ++ zs.toArray := by
        apply Array.ext'; simp
      rw [e]; exact d'
    obtain ⟨Z, D⟩ : ∃ Z, Rep (KTw w) h [L, acc, it] h [(L, nsO es en), (acc, lstX ys na), (it, liO (.ref src) (.int i ti))] Z := Rep.initC (T := [(L, nsO es en), (acc, lstX ys na), (it, liO (.ref src) (.int i ti))]) G (oc aL (oc aA (oc aI on))) (by kernel_rfl)
    rcases hes with rfl | ⟨hs1, t1, v1, rfl⟩
    · skip
      refine Mine.start (Q := fun _ _ => True) (E := fun _ _ => True) ?_
      refine eng 2 768 (by exact hA) D (by kernel_rfl) ?_
      intro χ1 h1 D1
      refine hook (c' := .call (.builtin "list_iterator.__next__") ⟨[.ref it], []⟩) (by kernel_rfl) ?_
      have K1 : Kp [] h h1 := Rep.kpF 0 [true, true, true] D D1 (by kernel_rfl)
      refine li_next_some (i := i) (src := src) (ti := ti) (v := .int (n : Nat) t) (xs := vs.toArray) (n := ns0) (so := so) (ac_handled hA) D1.gd (D1.at_ 2 (by kernel_rfl)) (K1.2 _ _ hs.1 (nin0 _)) hsd hv ?_
      intro h2 tk2 K2 a2
      refine Exists.elim ((D1.turn (j := 2) (x := (it, liO (.ref src) (.int i ti))) (by kernel_rfl) K2 a2.1).ex) ?_
      intro Z2 D2
      refine eng 11 18446745177516146688 (by exact hA) D2 (by kernel_rfl) ?_
      intro χ3 h3 D3
      refine hook2 (fun u v => .call (.builtin "int.__floordiv__") ⟨[.int (n : Nat) u, .int 8 v], []⟩) (by kernel_rfl) ?_
      intro x3 y3
      refine floordiv_spec n 8 rfl rfl (by decide) (by decide) ?_
      intro tk4 v4
      refine hook (c' := .call (.builtin "list.append") ⟨[.ref acc, .int ((n / 8 : Nat) : Int) v4], []⟩) (by kernel_rfl) ?_
      refine append_lst (n := na) (xs := ys) (v := .int ((n / 8 : Nat) : Int) v4) (ac_handled hA) (D3.one 1 (by kernel_rfl)) (by omega) ?_
      intro h20 tk20 K20 a20
      refine Exists.elim ((D3.turn (j := 1) (x := (acc, lstX ys na)) (by kernel_rfl) K20 a20.1).ex) ?_
      intro Z20 D20
      refine againC (c' := .compLoop (fdE p1 p2 p3 p4 p5 iter) 0 (.ref it) (.ref acc) (cEnv xS L gl [] q f co fr bi)) (c := .compLoop (fdE p1 p2 p3 p4 p5 iter) 0 (.ref it) (.ref acc) (cEnv xS L gl [] q f co fr bi)) (by kernel_rfl) ?_
      have bL := D20.at_ (a := L) (o := nsO #[⟨eHi (objAt (TT D20) 0) 0, .str "x" (eKi (objAt (TT D20) 0) 0), .int (n : Nat) t⟩] (en + 1)) 0 (by kernel_rfl)
      have bA := D20.at_ (a := acc) (o := lstX (ys.push (.int ((n / 8 : Nat) : Int) v4)) (na + 1)) 1 (by kernel_rfl)
      have bI := D20.at_ (a := it) (o := liO (.ref src) (.int (i + 1 : Nat) 0)) 2 (by kernel_rfl)
      exact done h20 _ _ _ _ _ _ 0 D20.gd (Rep.kpF 0 [false, false, false] D D20 (by kernel_rfl)) bL bA bI ⟨_, rfl⟩
    · skip
      refine Mine.start (Q := fun _ _ => True) (E := fun _ _ => True) ?_
      refine eng 2 768 (by exact hA) D (by kernel_rfl) ?_
      intro χ1 h1 D1
      refine hook (c' := .call (.builtin "list_iterator.__next__") ⟨[.ref it], []⟩) (by kernel_rfl) ?_
      have K1 : Kp [] h h1 := Rep.kpF 0 [true, true, true] D D1 (by kernel_rfl)
      refine li_next_some (i := i) (src := src) (ti := ti) (v := .int (n : Nat) t) (xs := vs.toArray) (n := ns0) (so := so) (ac_handled hA) D1.gd (D1.at_ 2 (by kernel_rfl)) (K1.2 _ _ hs.1 (nin0 _)) hsd hv ?_
      intro h2 tk2 K2 a2
      refine Exists.elim ((D1.turn (j := 2) (x := (it, liO (.ref src) (.int i ti))) (by kernel_rfl) K2 a2.1).ex) ?_
      intro Z2 D2
      refine eng 11 18446745177516146688 (by exact hA) D2 (by kernel_rfl) ?_
      intro χ3 h3 D3
      refine hook2 (fun u v => .call (.builtin "int.__floordiv__") ⟨[.int (n : Nat) u, .int 8 v], []⟩) (by kernel_rfl) ?_
      intro x3 y3
      refine floordiv_spec n 8 rfl rfl (by decide) (by decide) ?_
      intro tk4 v4
      refine hook (c' := .call (.builtin "list.append") ⟨[.ref acc, .int ((n / 8 : Nat) : Int) v4], []⟩) (by kernel_rfl) ?_
      refine append_lst (n := na) (xs := ys) (v := .int ((n / 8 : Nat) : Int) v4) (ac_handled hA) (D3.one 1 (by kernel_rfl)) (by omega) ?_
      intro h20 tk20 K20 a20
      refine Exists.elim ((D3.turn (j := 1) (x := (acc, lstX ys na)) (by kernel_rfl) K20 a20.1).ex) ?_
      intro Z20 D20
      refine againC (c' := .compLoop (fdE p1 p2 p3 p4 p5 iter) 0 (.ref it) (.ref acc) (cEnv xS L gl [] q f co fr bi)) (c := .compLoop (fdE p1 p2 p3 p4 p5 iter) 0 (.ref it) (.ref acc) (cEnv xS L gl [] q f co fr bi)) (by kernel_rfl) ?_
      have bL := D20.at_ (a := L) (o := nsO #[⟨eHi (objAt (TT D20) 0) 0, .str "x" (eKi (objAt (TT D20) 0) 0), .int (n : Nat) t⟩] (en)) 0 (by kernel_rfl)
      have bA := D20.at_ (a := acc) (o := lstX (ys.push (.int ((n / 8 : Nat) : Int) v4)) (na + 1)) 1 (by kernel_rfl)
      have bI := D20.at_ (a := it) (o := liO (.ref src) (.int (i + 1 : Nat) 0)) 2 (by kernel_rfl)
      exact done h20 _ _ _ _ _ _ 0 D20.gd (Rep.kpF 0 [false, false, false] D D20 (by kernel_rfl)) bL bA bI ⟨_, rfl⟩
theorem comp_fd {L acc it src : Addr} {ns0 na en : Nat} {so : Obj} {vs : List Value} {ti : Tok} {gl : Addr} {q : Str} {f : Option Addr} {co : Value} {fr : Option Addr} {bi : Addr} {iter : PySem.Expr} {p1 p2 p3 p4 p5 : Pos}
    (hA : A.handled = none)  (hsd : so.data = .seq vs.toArray ns0) {ns : List Nat} (hI : NatsAre vs ns) (hsz : vs.length ≤ 500)
    (G : Gd w h) (aL : At w h L (nsO #[] en)) (aA : At w h acc (lstX #[] na)) (aI : At w h it (liO (.ref src) (.int 0 ti))) (hs : At w h src so) (hn : src ∉ [L, acc, it])
    (k : ∀ h' tk' es' en' na' v (zs : List Value), Kp [L, acc, it] h h' → Gd w h' → OneOf "x" es' → At w h' L (nsO es' en') → NatsAre zs (ns.map (· / 8)) → At w h' acc (lstX zs.toArray na') → At w h' it (liO .none v) → R (.ok .next) ⟨h', g, dr, tk', os⟩) :
    codeAny (model pw w) A (.compStart (fdE p1 p2 p3 p4 p5 iter) 0 (.ref it) (.ref acc) (cEnv xS L gl [] q f co fr bi)) R ⟨h, g, dr, tk, os⟩ := by
  refine comp_start hA G aI fun h1 tk1 K1 G1 => ?_
  refine comp_fd_loop (src := src) (so := so) (ns0 := ns0) (vs := vs) hA hsd vs ns hI 0 h1 tk1 na en #[] #[] ti rfl (by simpa using hsz) (.inl rfl) G1 (aL.kp K1 (nin0 _)) (aA.kp K1 (nin0 _)) (aI.kp K1 (nin0 _)) (hs.kp K1 (nin0 _)) hn  ?_
  intro h' tk' es' en' na' v zs K' G' o a b c d
  refine k h' tk' es' en' na' v zs ((K1.weak (by simp)).trans K' fun _ _ _ q => q) G' o a b ?_ d
  simpa using c
theorem comp_md_loop {L acc it src : Addr} {ns0 : Nat} {so : Obj} {vs : List Value} {gl : Addr} {q : Str} {f : Option Addr} {co : Value} {fr : Option Addr} {bi : Addr} {iter : PySem.Expr} {p1 p2 p3 p4 p5 p6 p7 : Pos}
    (hA : A.handled = none)  (hsd : so.data = .seq vs.toArray ns0) :
    ∀ (rest : List Value) (ns : List Int) (hI : IntsAre rest ns) (i : Nat) (h : Heap) (tk : Nat) (na en : Nat) (ys : Array Value) (es : Array DictEntry) (ti : Tok), vs.drop i = rest → ys.size + rest.length ≤ 500 → OneOf "x" es →
    Gd w h → At w h L (nsO es en) → At w h acc (lstX ys na) → At w h it (liO (.ref src) (.int i ti)) → At w h src so → src ∉ [L, acc, it] →
    (∀ h' tk' es' en' na' v (zs : List Value), Kp [L, acc, it] h h' → Gd w h' → OneOf "x" es' → At w h' L (nsO es' en') → NatsAre zs (ns.map (fun x : Int => (x % 1000000000).toNat)) → At w h' acc (lstX (ys ++ zs.toArray) na') → At w h' it (liO .none v) → R (.ok .next) ⟨h', g, dr, tk', os⟩) →
    codeAny (model pw w) A (.compLoop (mdE p1 p2 p3 p4 p5 p6 p7 iter) 0 (.ref it) (.ref acc) (cEnv xS L gl [] q f co fr bi)) R ⟨h, g, dr, tk, os⟩ := by
  intro rest
  induction rest with
  | nil =>
    intro ns hI i h tk na en ys es ti hr hsz hes G aL aA aI hs hn  k
    cases hI
    obtain ⟨Z, D⟩ : ∃ Z, Rep (KTw w) h [L, acc, it] h [(L, nsO es en), (acc, lstX ys na), (it, liO (.ref src) (.int i ti))] Z := Rep.initC (T := [(L, nsO es en), (acc, lstX ys na), (it, liO (.ref src) (.int i ti))]) G (oc aL (oc aA (oc aI on))) (by kernel_rfl)
    refine Mine.start (Q := fun _ _ => True) (E := fun _ _ => True) ?_
    refine eng 2 768 (by exact hA) D (by kernel_rfl) ?_
    intro χ1 h1 D1
    refine hook (c' := .call (.builtin "list_iterator.__next__") ⟨[.ref it], []⟩) (by kernel_rfl) ?_
    have hi : vs.length ≤ i := List.drop_eq_nil_iff.mp hr
    refine li_next_none (i := i) (src := src) (ti := ti) (xs := vs.toArray) (n := ns0) (so := so) (ac_handled hA) D1.gd (D1.at_ 2 (by kernel_rfl)) (D1.keep.2 _ _ hs.1 hn) hsd (by simp [hi]) ?_
    intro h2 tk2 e t K2 a2 ae he
    refine Exists.elim ((D1.turnPlus (j := 2) (x := (it, liO (.ref src) (.int i ti))) (by kernel_rfl) K2 a2.1 ae he).ex) ?_
    intro Z2 D2
    refine eng 1 1 (by exact hA) D2 (by kernel_rfl) ?_
    intro χ3 h3 D3
    refine fin (f := .next) (by kernel_rfl) ?_
    refine k h3 _ es en na (.int i ti) [] D3.keep D3.gd hes (D3.at_ 1 (by kernel_rfl)) .nil ?_ (D3.at_ 3 (by kernel_rfl))
    have := D3.at_ (a := acc) (o := lstX ys na) 2 (by kernel_rfl)
    simpa using this
  | cons v rest ih =>
    intro ns hI i h tk na en ys es ti hr hsz hes G aL aA aI hs hn  k
    obtain ⟨n, t, ns, rfl, rfl, hI'⟩ := ints_inv hI
    have hv : vs.toArray[i]? = some (.int n t) := by
      have := List.head?_drop (l := vs) (i := i)
      rw [hr] at this
      simp [← this]
    have hr' : vs.drop (i + 1) = rest := by rw [← List.drop_drop, hr]; rfl
    have hsz' : ys.size + rest.length + 1 ≤ 500 := by simp only [List.length_cons] at hsz; omega
    have done : ∀ h6 tk6 (z : Value) hs6 t6 v6 en6 ti6, Gd w h6 → Kp [L, acc, it] h h6 → At w h6 L (nsO #[⟨hs6, .str "x" t6, v6⟩] en6) → At w h6 acc (lstX (ys.push z) (na + 1)) → At w h6 it (liO (.ref src) (.int (i + 1 : Nat) ti6)) → (∃ t, z = .int ((n % 1000000000).toNat : Nat) t) →
        codeAny (model pw w) A (.compLoop (mdE p1 p2 p3 p4 p5 p6 p7 iter) 0 (.ref it) (.ref acc) (cEnv xS L gl [] q f co fr bi)) R ⟨h6, g, dr, tk6, os⟩ := by
      intro h6 tk6 z hs6 t6 v6 en6 ti6 G6 K6 bL bA bI hz
      refine ih _ hI' (i + 1) h6 tk6 (na + 1) en6 (ys.push z) _ ti6 hr' (by simp only [Array.size_push]; omega) (.inr ⟨_, _, _, rfl⟩) G6 bL bA bI ⟨K6.2 _ _ hs.1 hn, hs.2⟩ hn  ?_
      intro h' tk' es' en' na' x zs K' G' a b' c' d' e'
      refine k h' tk' es' en' na' x (z :: zs) (K6.trans K' fun _ _ _ q => q) G' a b' (by obtain ⟨t, rfl⟩ := hz; exact .cons _ t c') ?_ e'
      have e : ys ++ (z :: zs).toArray = ys.push z ++ zs.toArray := by
        apply Array.ext'; simp
      rw [e]; exact d'
    obtain ⟨Z, D⟩ : ∃ Z, Rep (KTw w) h [L, acc, it] h [(L, nsO es en), (acc, lstX ys na), (it, liO (.ref src) (.int i ti))] Z := Rep.initC (T := [(L, nsO es en), (acc, lstX ys na), (it, liO (.ref src) (.int i ti))]) G (oc aL (oc aA (oc aI on))) (by kernel_rfl)
    rcases hes with rfl | ⟨hs1, t1, v1, rfl⟩
    · skip
      refine Mine.start (Q := fun _ _ => True) (E := fun _ _ => True) ?_
      refine eng 2 768 (by exact hA) D (by kernel_rfl) ?_
      intro χ1 h1 D1
      refine hook (c' := .call (.builtin "list_iterator.__next__") ⟨[.ref it], []⟩) (by kernel_rfl) ?_
      have K1 : Kp [] h h1 := Rep.kpF 0 [true, true, true] D D1 (by kernel_rfl)
      refine li_next_some (i := i) (src := src) (ti := ti) (v := .int n t) (xs := vs.toArray) (n := ns0) (so := so) (ac_handled hA) D1.gd (D1.at_ 2 (by kernel_rfl)) (K1.2 _ _ hs.1 (nin0 _)) hsd hv ?_
      intro h2 tk2 K2 a2
      refine Exists.elim ((D1.turn (j := 2) (x := (it, liO (.ref src) (.int i ti))) (by kernel_rfl) K2 a2.1).ex) ?_
      intro Z2 D2
      refine eng 12 18446745177516146688 (by exact hA) D2 (by kernel_rfl) ?_
      intro χ3 h3 D3
      refine hook2 (fun u v => .call (.builtin "int.__pow__") ⟨[.int 10 u, .int 9 v], []⟩) (by kernel_rfl) ?_
      intro x3 y3
      refine pow_spec ?_
      intro tk3 v3
      refine eng 1 0 (by exact hA) D3 (by kernel_rfl) ?_
      intro χ4 h4 D4
      refine hook2 (fun u v => .call (.builtin "int.__mod__") ⟨[.int n u, .int 1000000000 v], []⟩) (by kernel_rfl) ?_
      intro x4 y4
      refine modI_spec (by decide) ?_
      intro tk4 v4
      refine hook (c' := .call (.builtin "list.append") ⟨[.ref acc, .int ((n % 1000000000).toNat : Nat) v4], []⟩) (by kernel_rfl) ?_
      refine append_lst (n := na) (xs := ys) (v := .int ((n % 1000000000).toNat : Nat) v4) (ac_handled hA) (D4.one 1 (by kernel_rfl)) (by omega) ?_
      intro h20 tk20 K20 a20
      refine Exists.elim ((D4.turn (j := 1) (x := (acc, lstX ys na)) (by kernel_rfl) K20 a20.1).ex) ?_
      intro Z20 D20
      refine againC (c' := .compLoop (mdE p1 p2 p3 p4 p5 p6 p7 iter) 0 (.ref it) (.ref acc) (cEnv xS L gl [] q f co fr bi)) (c := .compLoop (mdE p1 p2 p3 p4 p5 p6 p7 iter) 0 (.ref it) (.ref acc) (cEnv xS L gl [] q f co fr bi)) (by kernel_rfl) ?_
      have bL := D20.at_ (a := L) (o := nsO #[⟨eHi (objAt (TT D20) 0) 0, .str "x" (eKi (objAt (TT D20) 0) 0), .int n t⟩] (en + 1)) 0 (by kernel_rfl)
      have bA := D20.at_ (a := acc) (o := lstX (ys.push (.int ((n % 1000000000).toNat : Nat) v4)) (na + 1)) 1 (by kernel_rfl)
      have bI := D20.at_ (a := it) (o := liO (.ref src) (.int (i + 1 : Nat) 0)) 2 (by kernel_rfl)
      exact done h20 _ _ _ _ _ _ 0 D20.gd (Rep.kpF 0 [false, false, false] D D20 (by kernel_rfl)) bL bA bI ⟨_, rfl⟩
    · skip
      refine Mine.start (Q := fun _ _ => True) (E := fun _ _ => True) ?_
      refine eng 2 768 (by exact hA) D (by kernel_rfl) ?_
      intro χ1 h1 D1
      refine hook (c' := .call (.builtin "list_iterator.__next__") ⟨[.ref it], []⟩) (by kernel_rfl) ?_
      have K1 : Kp [] h h1 := Rep.kpF 0 [true, true, true] D D1 (by kernel_rfl)
      refine li_next_some (i := i) (src := src) (ti := ti) (v := .int n t) (xs := vs.toArray) (n := ns0) (so := so) (ac_handled hA) D1.gd (D1.at_ 2 (by kernel_rfl)) (K1.2 _ _ hs.1 (nin0 _)) hsd hv ?_
      intro h2 tk2 K2 a2
      refine Exists.elim ((D1.turn (j := 2) (x := (it, liO (.ref src) (.int i ti))) (by kernel_rfl) K2 a2.1).ex) ?_
      intro Z2 D2
      refine eng 12 18446745177516146688 (by exact hA) D2 (by kernel_rfl) ?_
      intro χ3 h3 D3
      refine hook2 (fun u v => .call (.builtin "int.__pow__") ⟨[.int 10 u, .int 9 v], []⟩) (by kernel_rfl) ?_
      intro x3 y3
      refine pow_spec ?_
      intro tk3 v3
      refine eng 1 0 (by exact hA) D3 (by kernel_rfl) ?_
      intro χ4 h4 D4
      refine hook2 (fun u v => .call (.builtin "int.__mod__") ⟨[.int n u, .int 1000000000 v], []⟩) (by kernel_rfl) ?_
      intro x4 y4
      refine modI_spec (by decide) ?_
      intro tk4 v4
      refine hook (c' := .call (.builtin "list.append") ⟨[.ref acc, .int ((n % 1000000000).toNat : Nat) v4], []⟩) (by kernel_rfl) ?_
      refine append_lst (n := na) (xs := ys) (v := .int ((n % 1000000000).toNat : Nat) v4) (ac_handled hA) (D4.one 1 (by kernel_rfl)) (by omega) ?_
      intro h20 tk20 K20 a20
      refine Exists.elim ((D4.turn (j := 1) (x := (acc, lstX ys na)) (by kernel_rfl) K20 a20.1).ex) ?_
      intro Z20 D20
      refine againC (c' := .compLoop (mdE p1 p2 p3 p4 p5 p6 p7 iter) 0 (.ref it) (.ref acc) (cEnv xS L gl [] q f co fr bi)) (c := .compLoop (mdE p1 p2 p3 p4 p5 p6 p7 iter) 0 (.ref it) (.ref acc) (cEnv xS L gl [] q f co fr bi)) (by kernel_rfl) ?_
      have bL := D20.at_ (a := L) (o := nsO #[⟨eHi (objAt (TT D20) 0) 0, .str "x" (eKi (objAt (TT D20) 0) 0), .int n t⟩] (en)) 0 (by kernel_rfl)
      have bA := D20.at_ (a := acc) (o := lstX (ys.push (.int ((n % 1000000000).toNat : Nat) v4)) (na + 1)) 1 (by kernel_rfl)
      have bI := D20.at_ (a := it) (o := liO (.ref src) (.int (i + 1 : Nat) 0)) 2 (by kernel_rfl)
      exact done h20 _ _ _ _ _ _ 0 D20.gd (Rep.kpF 0 [false, false, false] D D20 (by kernel_rfl)) bL bA bI ⟨_, rfl⟩
theorem comp_md {L acc it src : Addr} {ns0 na en : Nat} {so : Obj} {vs : List Value} {ti : Tok} {gl : Addr} {q : Str} {f : Option Addr} {co : Value} {fr : Option Addr} {bi : Addr} {iter : PySem.Expr} {p1 p2 p3 p4 p5 p6 p7 : Pos}
    (hA : A.handled = none)  (hsd : so.data = .seq vs.toArray ns0) {ns : List Int} (hI : IntsAre vs ns) (hsz : vs.length ≤ 500)
    (G : Gd w h) (aL : At w h L (nsO #[] en)) (aA : At w h acc (lstX #[] na)) (aI : At w h it (liO (.ref src) (.int 0 ti))) (hs : At w h src so) (hn : src ∉ [L, acc, it])
    (k : ∀ h' tk' es' en' na' v (zs : List Value), Kp [L, acc, it] h h' → Gd w h' → OneOf "x" es' → At w h' L (nsO es' en') → NatsAre zs (ns.map (fun x : Int => (x % 1000000000).toNat)) → At w h' acc (lstX zs.toArray na') → At w h' it (liO .none v) → R (.ok .next) ⟨h', g, dr, tk', os⟩) :
    codeAny (model pw w) A (.compStart (mdE p1 p2 p3 p4 p5 p6 p7 iter) 0 (.ref it) (.ref acc) (cEnv xS L gl [] q f co fr bi)) R ⟨h, g, dr, tk, os⟩ := by
  refine comp_start hA G aI fun h1 tk1 K1 G1 => ?_
  refine comp_md_loop (src := src) (so := so) (ns0 := ns0) (vs := vs) hA hsd vs ns hI 0 h1 tk1 na en #[] #[] ti rfl (by simpa using hsz) (.inl rfl) G1 (aL.kp K1 (nin0 _)) (aA.kp K1 (nin0 _)) (aI.kp K1 (nin0 _)) (hs.kp K1 (nin0 _)) hn  ?_
  intro h' tk' es' en' na' v zs K' G' o a b c d
  refine k h' tk' es' en' na' v zs ((K1.weak (by simp)).trans K' fun _ _ _ q => q) G' o a b ?_ d
  simpa using c
abbrev tmS : Scope := ⟨.function, [(nDot, .local), ("x", .local), ("table", .cell)], false, false, []⟩
abbrev tmE (p1 p2 p3 p4 p5 p6 p7 : Pos) (iter : PySem.Expr) : PySem.Expr := .ListComp (.Subscript (.Name "table" p1) (.BinOp (.Name "x" p2) .Mod (.Constant (.int 8) 0 p3) p4) p5) [⟨.Name "x" p6, iter, [], 0⟩] ⟨.function, [(nDot, .local), ("x", .local), ("table", .free)], false, false, []⟩ p7
abbrev ixS : Scope := ⟨.function, [(nDot, .local), ("piece", .local), ("table", .cell)], false, false, []⟩
abbrev ixE (p1 p2 p3 p4 p5 p6 : Pos) (iter : PySem.Expr) : PySem.Expr := .ListComp (.Call (.Attribute (.Name "table" p1) "index" p2) [.Name "piece" p3] [] p4) [⟨.Name "piece" p5, iter, [], 0⟩] ⟨.function, [(nDot, .local), ("piece", .local), ("table", .free)], false, false, []⟩ p6
abbrev trS : Scope := ⟨.function, [(nDot, .local), ("rank", .local), ("table", .cell)], false, false, []⟩
abbrev trE (p1 p2 p3 p4 p5 p6 : Pos) (iter : PySem.Expr) : PySem.Expr := .ListComp (.List [.Subscript (.Name "table" p1) (.Name "rank" p2) p3] p4) [⟨.Name "rank" p5, iter, [], 0⟩] ⟨.function, [(nDot, .local), ("rank", .local), ("table", .free)], false, false, []⟩ p6
theorem nd5x {a b c d e : Addr} (h12 : a ≠ b) (h13 : a ≠ c) (h14 : a ≠ d) (h15 : a ≠ e) (h23 : b ≠ c) (h24 : b ≠ d) (h25 : b ≠ e) (h34 : c ≠ d) (h35 : c ≠ e) (h45 : d ≠ e) : [a, b, c, d, e].Nodup := by
  simp only [List.nodup_cons, List.mem_cons, List.not_mem_nil, or_false, not_or, not_false_eq_true, List.nodup_nil, and_true]
  exact ⟨⟨h12, h13, h14, h15⟩, ⟨h23, h24, h25⟩, ⟨h34, h35⟩, h45⟩
theorem pcs_get (m : Nat) (hm : m < 8) : pcs[m]? = some (pc m) := by
  have : m < pcs.length := hm
  unfold pc
  rw [List.getD_eq_getElem?_getD, List.getElem?_eq_getElem this]; rfl
theorem comp_tm_loop {L acc it src : Addr} {ns0 : Nat} {so : Obj} {vs : List Value} {C Tb : Addr} {tqs : List Addr} {nT : Nat} {gl : Addr} {q : Str} {f : Option Addr} {co : Value} {fr : Option Addr} {bi : Addr} {iter : PySem.Expr} {p1 p2 p3 p4 p5 p6 p7 : Pos}
    (hA : A.handled = none)  (hsd : so.data = .seq vs.toArray ns0) :
    ∀ (rest : List Value) (ns : List Nat) (hI : NatsAre rest ns) (i : Nat) (h : Heap) (tk : Nat) (na en : Nat) (ys : Array Value) (es : Array DictEntry) (ti : Tok), vs.drop i = rest → ys.size + rest.length ≤ 500 → OneOf "x" es →
    Gd w h → At w h L (nsO es en) → At w h acc (lstX ys na) → At w h it (liO (.ref src) (.int i ti)) → At w h src so → src ∉ [L, acc, it] → At w h C (cellO (.ref Tb)) → At w h Tb (lstO (tqs.map .ref) nT) → Row w h tqs pcs → Tb ≠ acc →
    (∀ h' tk' es' en' na' v (zs : List Value), Kp [L, acc, it] h h' → Gd w h' → OneOf "x" es' → At w h' L (nsO es' en') → (∃ qs, zs = qs.map Value.ref ∧ Row w h' qs (ns.map (fun n => pc (n % 8)))) → At w h' acc (lstX (ys ++ zs.toArray) na') → At w h' it (liO .none v) → R (.ok .next) ⟨h', g, dr, tk', os⟩) →
    codeAny (model pw w) A (.compLoop (tmE p1 p2 p3 p4 p5 p6 p7 iter) 0 (.ref it) (.ref acc) (cEnv tmS L gl [("table", C)] q f co fr bi)) R ⟨h, g, dr, tk, os⟩ := by
  intro rest
  induction rest with
  | nil =>
    intro ns hI i h tk na en ys es ti hr hsz hes G aL aA aI hs hn aC aT rT nTa k
    cases hI
    obtain ⟨Z, D⟩ : ∃ Z, Rep (KTw w) h [L, acc, it] h [(L, nsO es en), (acc, lstX ys na), (it, liO (.ref src) (.int i ti))] Z := Rep.initC (T := [(L, nsO es en), (acc, lstX ys na), (it, liO (.ref src) (.int i ti))]) G (oc aL (oc aA (oc aI on))) (by kernel_rfl)
    refine Mine.start (Q := fun _ _ => True) (E := fun _ _ => True) ?_
    refine eng 2 768 (by exact hA) D (by kernel_rfl) ?_
    intro χ1 h1 D1
    refine hook (c' := .call (.builtin "list_iterator.__next__") ⟨[.ref it], []⟩) (by kernel_rfl) ?_
    have hi : vs.length ≤ i := List.drop_eq_nil_iff.mp hr
    refine li_next_none (i := i) (src := src) (ti := ti) (xs := vs.toArray) (n := ns0) (so := so) (ac_handled hA) D1.gd (D1.at_ 2 (by kernel_rfl)) (D1.keep.2 _ _ hs.1 hn) hsd (by simp [hi]) ?_
    intro h2 tk2 e t K2 a2 ae he
    refine Exists.elim ((D1.turnPlus (j := 2) (x := (it, liO (.ref src) (.int i ti))) (by kernel_rfl) K2 a2.1 ae he).ex) ?_
    intro Z2 D2
    refine eng 1 1 (by exact hA) D2 (by kernel_rfl) ?_
    intro χ3 h3 D3
    refine fin (f := .next) (by kernel_rfl) ?_
    refine k h3 _ es en na (.int i ti) [] D3.keep D3.gd hes (D3.at_ 1 (by kernel_rfl)) ⟨[], rfl, .nil⟩ ?_ (D3.at_ 3 (by kernel_rfl))
    have := D3.at_ (a := acc) (o := lstX ys na) 2 (by kernel_rfl)
    simpa using this
  | cons v rest ih =>
    intro ns hI i h tk na en ys es ti hr hsz hes G aL aA aI hs hn aC aT rT nTa k
    obtain ⟨n, t, ns, rfl, rfl, hI'⟩ := hI.inv
    have hv : vs.toArray[i]? = some (.int (n : Nat) t) := by
      have := List.head?_drop (l := vs) (i := i)
      rw [hr] at this
      simp [← this]
    have hr' : vs.drop (i + 1) = rest := by rw [← List.drop_drop, hr]; rfl
    have hsz' : ys.size + rest.length + 1 ≤ 500 := by simp only [List.length_cons] at hsz; omega
    have nd : [L, acc, it, C, Tb].Nodup := nd5x (ne_of_cls aL.1 aA.1 (by kernel_rfl)) (ne_of_cls aL.1 aI.1 (by kernel_rfl)) (ne_of_cls aL.1 aC.1 (by kernel_rfl)) (ne_of_cls aL.1 aT.1 (by kernel_rfl)) (ne_of_cls aA.1 aI.1 (by kernel_rfl)) (ne_of_cls aA.1 aC.1 (by kernel_rfl)) (Ne.symm nTa) (ne_of_cls aI.1 aC.1 (by kernel_rfl)) (ne_of_cls aI.1 aT.1 (by kernel_rfl)) (ne_of_cls aC.1 aT.1 (by kernel_rfl))
    have nk : ∀ a ∈ [L, acc, it], ∀ o, h.get? a = some o → o.cls ≠ .type "tuple" := by
      simp only [List.forall_mem_cons]
      refine ⟨fun o e => ?_, fun o e => ?_, fun o e => ?_, by simp⟩
      · rw [aL.1] at e; cases e; simp
      · rw [aA.1] at e; cases e; simp
      · rw [aI.1] at e; cases e; simp
    have tl8 : tqs.length = 8 := rT.length
    have hm8 : n % 8 < 8 := Nat.mod_lt _ (by decide)
    obtain ⟨tq0, hq0⟩ : ∃ a, tqs[n % 8]? = some a := ⟨_, List.getElem?_eq_getElem (by omega)⟩
    have tq : Tup w h tq0 (pc (n % 8)) := by
      obtain ⟨c, hc, t⟩ := rT.get hq0
      rw [pcs_get _ hm8] at hc
      cases hc; exact t
    have done : ∀ h6 tk6 (z : Value) hs6 t6 v6 en6 ti6, Gd w h6 → Kp [L, acc, it] h h6 → At w h6 L (nsO #[⟨hs6, .str "x" t6, v6⟩] en6) → At w h6 acc (lstX (ys.push z) (na + 1)) → At w h6 it (liO (.ref src) (.int (i + 1 : Nat) ti6)) → z = .ref tq0 →
        codeAny (model pw w) A (.compLoop (tmE p1 p2 p3 p4 p5 p6 p7 iter) 0 (.ref it) (.ref acc) (cEnv tmS L gl [("table", C)] q f co fr bi)) R ⟨h6, g, dr, tk6, os⟩ := by
      intro h6 tk6 z hs6 t6 v6 en6 ti6 G6 K6 bL bA bI hz
      refine ih _ hI' (i + 1) h6 tk6 (na + 1) en6 (ys.push z) _ ti6 hr' (by simp only [Array.size_push]; omega) (.inr ⟨_, _, _, rfl⟩) G6 bL bA bI ⟨K6.2 _ _ hs.1 hn, hs.2⟩ hn (aC.kp K6 (nin3 (ne_of_cls aC.1 aL.1 (by kernel_rfl)) (ne_of_cls aC.1 aA.1 (by kernel_rfl)) (ne_of_cls aC.1 aI.1 (by kernel_rfl)))) (aT.kp K6 (nin3 (ne_of_cls aT.1 aL.1 (by kernel_rfl)) nTa (ne_of_cls aT.1 aI.1 (by kernel_rfl)))) (rT.kpc K6 nk) nTa ?_
      intro h' tk' es' en' na' x zs K' G' a b' c' d' e'
      refine k h' tk' es' en' na' x (z :: zs) (K6.trans K' fun _ _ _ q => q) G' a b' (by obtain ⟨qs, rfl, cr⟩ := c'; exact ⟨tq0 :: qs, by rw [hz]; rfl, .cons (by obtain ⟨s1, s2, tq⟩ := tq; exact ⟨s1, s2, tq.kp (K6.trans K' fun _ _ _ q => q) (nin3 (ne_of_cls tq.1 aL.1 (by kernel_rfl)) (ne_of_cls tq.1 aA.1 (by kernel_rfl)) (ne_of_cls tq.1 aI.1 (by kernel_rfl)))⟩) cr⟩) ?_ e'
      have e : ys ++ (z :: zs).toArray = ys.push z ++ zs.toArray := by
        apply Array.ext'; simp
      rw [e]; exact d'
    obtain ⟨Z, D⟩ : ∃ Z, Rep (KTw w) h [L, acc, it, C, Tb] h [(L, nsO es en), (acc, lstX ys na), (it, liO (.ref src) (.int i ti)), (C, cellO (.ref Tb)), (Tb, lstO (tqs.map .ref) nT)] Z := ⟨_, Rep.init (T := [(L, nsO es en), (acc, lstX ys na), (it, liO (.ref src) (.int i ti)), (C, cellO (.ref Tb)), (Tb, lstO (tqs.map .ref) nT)]) G (oc aL (oc aA (oc aI (oc aC (oc aT on))))) nd⟩
    rcases hes with rfl | ⟨hs1, t1, v1, rfl⟩
    · skip
      refine Mine.start (Q := fun _ _ => True) (E := fun _ _ => True) ?_
      refine eng 2 768 (by exact hA) D (by kernel_rfl) ?_
      intro χ1 h1 D1
      refine hook (c' := .call (.builtin "list_iterator.__next__") ⟨[.ref it], []⟩) (by kernel_rfl) ?_
      have K1 : Kp [] h h1 := Rep.kpF 0 [true, true, true, true, true] D D1 (by kernel_rfl)
      refine li_next_some (i := i) (src := src) (ti := ti) (v := .int (n : Nat) t) (xs := vs.toArray) (n := ns0) (so := so) (ac_handled hA) D1.gd (D1.at_ 2 (by kernel_rfl)) (K1.2 _ _ hs.1 (nin0 _)) hsd hv ?_
      intro h2 tk2 K2 a2
      refine Exists.elim ((D1.turn (j := 2) (x := (it, liO (.ref src) (.int i ti))) (by kernel_rfl) K2 a2.1).ex) ?_
      intro Z2 D2
      refine eng 13 1208999606592027819507712 (by exact hA) D2 (by kernel_rfl) ?_
      intro χ3 h3 D3
      refine hook2 (fun u v => .call (.builtin "int.__mod__") ⟨[.int (n : Nat) u, .int 8 v], []⟩) (by kernel_rfl) ?_
      intro x3 y3
      refine mod_spec n 8 rfl rfl (by decide) (by decide) ?_
      intro tk4 v4
      refine eng 4 84215040 (by exact hA) D3 (by kernel_rfl) ?_
      intro χ4 h4 D4
      refine hook2 (fun u v => .call (.builtin "list.__getitem__") ⟨[.ref Tb, .int ((n % 8 : Nat) : Int) v], []⟩) (by kernel_rfl) ?_
      intro x5 y5
      refine getitem_spec (v := .ref tq0) (vs := tqs.map Value.ref) (n := nT) (D4.at_ (a := Tb) (o := lstO (tqs.map .ref) nT) 4 (by kernel_rfl)).1 (get_map hq0) (by simp; omega) ?_
      refine hook (c' := .call (.builtin "list.append") ⟨[.ref acc, .ref tq0], []⟩) (by kernel_rfl) ?_
      refine append_lst (n := na) (xs := ys) (v := .ref tq0) (ac_handled hA) (D4.one 1 (by kernel_rfl)) (by omega) ?_
      intro h20 tk20 K20 a20
      refine Exists.elim ((D4.turn (j := 1) (x := (acc, lstX ys na)) (by kernel_rfl) K20 a20.1).ex) ?_
      intro Z20 D20
      refine againC (c' := .compLoop (tmE p1 p2 p3 p4 p5 p6 p7 iter) 0 (.ref it) (.ref acc) (cEnv tmS L gl [("table", C)] q f co fr bi)) (c := .compLoop (tmE p1 p2 p3 p4 p5 p6 p7 iter) 0 (.ref it) (.ref acc) (cEnv tmS L gl [("table", C)] q f co fr bi)) (by kernel_rfl) ?_
      have bL := D20.at_ (a := L) (o := nsO #[⟨eHi (objAt (TT D20) 0) 0, .str "x" (eKi (objAt (TT D20) 0) 0), .int (n : Nat) t⟩] (en + 1)) 0 (by kernel_rfl)
      have bA := D20.at_ (a := acc) (o := lstX (ys.push (.ref tq0)) (na + 1)) 1 (by kernel_rfl)
      have bI := D20.at_ (a := it) (o := liO (.ref src) (.int (i + 1 : Nat) 0)) 2 (by kernel_rfl)
      exact done h20 _ _ _ _ _ _ 0 D20.gd (Rep.kpF 0 [false, false, false, true, true] D D20 (by kernel_rfl)) bL bA bI rfl
    · skip
      refine Mine.start (Q := fun _ _ => True) (E := fun _ _ => True) ?_
      refine eng 2 768 (by exact hA) D (by kernel_rfl) ?_
      intro χ1 h1 D1
      refine hook (c' := .call (.builtin "list_iterator.__next__") ⟨[.ref it], []⟩) (by kernel_rfl) ?_
      have K1 : Kp [] h h1 := Rep.kpF 0 [true, true, true, true, true] D D1 (by kernel_rfl)
      refine li_next_some (i := i) (src := src) (ti := ti) (v := .int (n : Nat) t) (xs := vs.toArray) (n := ns0) (so := so) (ac_handled hA) D1.gd (D1.at_ 2 (by kernel_rfl)) (K1.2 _ _ hs.1 (nin0 _)) hsd hv ?_
      intro h2 tk2 K2 a2
      refine Exists.elim ((D1.turn (j := 2) (x := (it, liO (.ref src) (.int i ti))) (by kernel_rfl) K2 a2.1).ex) ?_
      intro Z2 D2
      refine eng 13 1208999606592027819507712 (by exact hA) D2 (by kernel_rfl) ?_
      intro χ3 h3 D3
      refine hook2 (fun u v => .call (.builtin "int.__mod__") ⟨[.int (n : Nat) u, .int 8 v], []⟩) (by kernel_rfl) ?_
      intro x3 y3
      refine mod_spec n 8 rfl rfl (by decide) (by decide) ?_
      intro tk4 v4
      refine eng 4 84215040 (by exact hA) D3 (by kernel_rfl) ?_
      intro χ4 h4 D4
      refine hook2 (fun u v => .call (.builtin "list.__getitem__") ⟨[.ref Tb, .int ((n % 8 : Nat) : Int) v], []⟩) (by kernel_rfl) ?_
      intro x5 y5
      refine getitem_spec (v := .ref tq0) (vs := tqs.map Value.ref) (n := nT) (D4.at_ (a := Tb) (o := lstO (tqs.map .ref) nT) 4 (by kernel_rfl)).1 (get_map hq0) (by simp; omega) ?_
      refine hook (c' := .call (.builtin "list.append") ⟨[.ref acc, .ref tq0], []⟩) (by kernel_rfl) ?_
      refine append_lst (n := na) (xs := ys) (v := .ref tq0) (ac_handled hA) (D4.one 1 (by kernel_rfl)) (by omega) ?_
      intro h20 tk20 K20 a20
      refine Exists.elim ((D4.turn (j := 1) (x := (acc, lstX ys na)) (by kernel_rfl) K20 a20.1).ex) ?_
      intro Z20 D20
      refine againC (c' := .compLoop (tmE p1 p2 p3 p4 p5 p6 p7 iter) 0 (.ref it) (.ref acc) (cEnv tmS L gl [("table", C)] q f co fr bi)) (c := .compLoop (tmE p1 p2 p3 p4 p5 p6 p7 iter) 0 (.ref it) (.ref acc) (cEnv tmS L gl [("table", C)] q f co fr bi)) (by kernel_rfl) ?_
      have bL := D20.at_ (a := L) (o := nsO #[⟨eHi (objAt (TT D20) 0) 0, .str "x" (eKi (objAt (TT D20) 0) 0), .int (n : Nat) t⟩] (en)) 0 (by kernel_rfl)
      have bA := D20.at_ (a := acc) (o := lstX (ys.push (.ref tq0)) (na + 1)) 1 (by kernel_rfl)
      have bI := D20.at_ (a := it) (o := liO (.ref src) (.int (i + 1 : Nat) 0)) 2 (by kernel_rfl)
      exact done h20 _ _ _ _ _ _ 0 D20.gd (Rep.kpF 0 [false, false, false, true, true] D D20 (by kernel_rfl)) bL bA bI rfl
theorem comp_tm {L acc it src : Addr} {ns0 na en : Nat} {so : Obj} {vs : List Value} {ti : Tok} {C Tb : Addr} {tqs : List Addr} {nT : Nat} {gl : Addr} {q : Str} {f : Option Addr} {co : Value} {fr : Option Addr} {bi : Addr} {iter : PySem.Expr} {p1 p2 p3 p4 p5 p6 p7 : Pos}
    (hA : A.handled = none)  (hsd : so.data = .seq vs.toArray ns0) {ns : List Nat} (hI : NatsAre vs ns) (hsz : vs.length ≤ 500)
    (G : Gd w h) (aL : At w h L (nsO #[] en)) (aA : At w h acc (lstX #[] na)) (aI : At w h it (liO (.ref src) (.int 0 ti))) (hs : At w h src so) (hn : src ∉ [L, acc, it]) (aC : At w h C (cellO (.ref Tb))) (aT : At w h Tb (lstO (tqs.map .ref) nT)) (rT : Row w h tqs pcs) (nTa : Tb ≠ acc)
    (k : ∀ h' tk' es' en' na' v (zs : List Value), Kp [L, acc, it] h h' → Gd w h' → OneOf "x" es' → At w h' L (nsO es' en') → (∃ qs, zs = qs.map Value.ref ∧ Row w h' qs (ns.map (fun n => pc (n % 8)))) → At w h' acc (lstX zs.toArray na') → At w h' it (liO .none v) → R (.ok .next) ⟨h', g, dr, tk', os⟩) :
    codeAny (model pw w) A (.compStart (tmE p1 p2 p3 p4 p5 p6 p7 iter) 0 (.ref it) (.ref acc) (cEnv tmS L gl [("table", C)] q f co fr bi)) R ⟨h, g, dr, tk, os⟩ := by
  refine comp_start hA G aI fun h1 tk1 K1 G1 => ?_
  refine comp_tm_loop (src := src) (so := so) (ns0 := ns0) (vs := vs) hA hsd vs ns hI 0 h1 tk1 na en #[] #[] ti rfl (by simpa using hsz) (.inl rfl) G1 (aL.kp K1 (nin0 _)) (aA.kp K1 (nin0 _)) (aI.kp K1 (nin0 _)) (hs.kp K1 (nin0 _)) hn (aC.kp K1 (nin0 _)) (aT.kp K1 (nin0 _)) (rT.kp0 K1) nTa ?_
  intro h' tk' es' en' na' v zs K' G' o a b c d
  refine k h' tk' es' en' na' v zs ((K1.weak (by simp)).trans K' fun _ _ _ q => q) G' o a b ?_ d
  simpa using c
theorem tupKc {h h' : Heap} {ks : List Addr} {a : Addr} {c : Str × Str} (x : Tup w h a c) (K : Kp ks h h') (nk : ∀ a ∈ ks, ∀ o, h.get? a = some o → o.cls ≠ .type "tuple") : Tup w h' a c := by
  obtain ⟨t, u, x⟩ := x
  exact ⟨t, u, x.kp K fun q => nk a q _ x.1 rfl⟩
theorem dr_nil {qs : List Addr} {rks ns : List Nat} (hl : qs.length = rks.length) (hI : ∃ j, ([] : List Value) = (qs.drop j).map .ref ∧ ns = rks.drop j) : ns = [] := by
  obtain ⟨j, e, rfl⟩ := hI
  have := congrArg List.length e
  simp at this
  exact List.drop_eq_nil_iff.mpr (by omega)
theorem dr_inv {v : Value} {rest : List Value} {qs : List Addr} {rks ns : List Nat} (hl : qs.length = rks.length) (hI : ∃ j, v :: rest = (qs.drop j).map .ref ∧ ns = rks.drop j) : ∃ (j : Nat) (q : Addr) (n : Nat) (ns' : List Nat), v = .ref q ∧ ns = n :: ns' ∧ qs[j]? = some q ∧ rks[j]? = some n ∧ ∃ j, rest = (qs.drop j).map Value.ref ∧ ns' = rks.drop j := by
  obtain ⟨j, e, rfl⟩ := hI
  have hj : j < qs.length := by
    have := congrArg List.length e
    simp at this; omega
  have hj2 : j < rks.length := by omega
  rw [List.drop_eq_getElem_cons hj] at e
  rw [List.drop_eq_getElem_cons hj2]
  simp only [List.map_cons, List.cons.injEq] at e
  exact ⟨j, _, _, _, e.1, rfl, List.getElem?_eq_getElem hj, List.getElem?_eq_getElem hj2, j + 1, e.2, rfl⟩
theorem comp_ix_loop {L acc it src : Addr} {ns0 : Nat} {so : Obj} {vs : List Value} {C Tb : Addr} {tqs : List Addr} {nT : Nat} {qs : List Addr} {rks : List Nat} {gl : Addr} {q : Str} {f : Option Addr} {co : Value} {fr : Option Addr} {bi : Addr} {iter : PySem.Expr}
    (hA : A.handled = none) (hu : A.units + 100 < cLine) (hl : qs.length = rks.length) (h8 : ∀ n ∈ rks, n < 8) (hsd : so.data = .seq vs.toArray ns0) :
    ∀ (rest : List Value) (ns : List Nat) (hI : (∃ j, rest = (qs.drop j).map Value.ref ∧ ns = rks.drop j)) (i : Nat) (h : Heap) (tk : Nat) (na en : Nat) (ys : Array Value) (es : Array DictEntry) (ti : Tok), vs.drop i = rest → ys.size + rest.length ≤ 500 → OneOf "piece" es →
    Gd w h → At w h L (nsO es en) → At w h acc (lstX ys na) → At w h it (liO (.ref src) (.int i ti)) → At w h src so → src ∉ [L, acc, it] → At w h C (cellO (.ref Tb)) → At w h Tb (lstO (tqs.map .ref) nT) → Row w h tqs pcs → Tb ≠ acc → Row w h qs (rks.map pc) →
    (∀ h' tk' es' en' na' v (zs : List Value), Kp [L, acc, it] h h' → Gd w h' → OneOf "piece" es' → At w h' L (nsO es' en') → NatsAre zs (ns) → At w h' acc (lstX (ys ++ zs.toArray) na') → At w h' it (liO .none v) → R (.ok .next) ⟨h', g, dr, tk', os⟩) →
    codeAny (model pw w) A (.compLoop (ixE ⟨102, 20, 102, 25⟩ ⟨102, 20, 102, 31⟩ ⟨102, 32, 102, 37⟩ ⟨102, 20, 102, 38⟩ ⟨102, 43, 102, 48⟩ ⟨102, 19, 102, 59⟩ iter) 0 (.ref it) (.ref acc) (cEnv ixS L gl [("table", C)] q f co fr bi)) R ⟨h, g, dr, tk, os⟩ := by
  intro rest
  induction rest with
  | nil =>
    intro ns hI i h tk na en ys es ti hr hsz hes G aL aA aI hs hn aC aT rT nTa rQ k
    obtain rfl := dr_nil hl hI
    obtain ⟨Z, D⟩ : ∃ Z, Rep (KTw w) h [L, acc, it] h [(L, nsO es en), (acc, lstX ys na), (it, liO (.ref src) (.int i ti))] Z := Rep.initC (T := [(L, nsO es en), (acc, lstX ys na), (it, liO (.ref src) (.int i ti))]) G (oc aL (oc aA (oc aI on))) (by kernel_rfl)
    refine Mine.start (Q := fun _ _ => True) (E := fun _ _ => True) ?_
    refine eng 2 768 (by exact hA) D (by kernel_rfl) ?_
    intro χ1 h1 D1
    refine hook (c' := .call (.builtin "list_iterator.__next__") ⟨[.ref it], []⟩) (by kernel_rfl) ?_
    have hi : vs.length ≤ i := List.drop_eq_nil_iff.mp hr
    refine li_next_none (i := i) (src := src) (ti := ti) (xs := vs.toArray) (n := ns0) (so := so) (ac_handled hA) D1.gd (D1.at_ 2 (by kernel_rfl)) (D1.keep.2 _ _ hs.1 hn) hsd (by simp [hi]) ?_
    intro h2 tk2 e t K2 a2 ae he
    refine Exists.elim ((D1.turnPlus (j := 2) (x := (it, liO (.ref src) (.int i ti))) (by kernel_rfl) K2 a2.1 ae he).ex) ?_
    intro Z2 D2
    refine eng 1 1 (by exact hA) D2 (by kernel_rfl) ?_
    intro χ3 h3 D3
    refine fin (f := .next) (by kernel_rfl) ?_
    refine k h3 _ es en na (.int i ti) [] D3.keep D3.gd hes (D3.at_ 1 (by kernel_rfl)) .nil ?_ (D3.at_ 3 (by kernel_rfl))
    have := D3.at_ (a := acc) (o := lstX ys na) 2 (by kernel_rfl)
    simpa using this
  | cons v rest ih =>
    intro ns hI i h tk na en ys es ti hr hsz hes G aL aA aI hs hn aC aT rT nTa rQ k
    obtain ⟨j0, q0, n, ns, rfl, rfl, eq0, en0, hI'⟩ := dr_inv hl hI
    have hv : vs.toArray[i]? = some (.ref q0) := by
      have := List.head?_drop (l := vs) (i := i)
      rw [hr] at this
      simp [← this]
    have hr' : vs.drop (i + 1) = rest := by rw [← List.drop_drop, hr]; rfl
    have hsz' : ys.size + rest.length + 1 ≤ 500 := by simp only [List.length_cons] at hsz; omega
    have nd : [L, acc, it, C, Tb].Nodup := nd5x (ne_of_cls aL.1 aA.1 (by kernel_rfl)) (ne_of_cls aL.1 aI.1 (by kernel_rfl)) (ne_of_cls aL.1 aC.1 (by kernel_rfl)) (ne_of_cls aL.1 aT.1 (by kernel_rfl)) (ne_of_cls aA.1 aI.1 (by kernel_rfl)) (ne_of_cls aA.1 aC.1 (by kernel_rfl)) (Ne.symm nTa) (ne_of_cls aI.1 aC.1 (by kernel_rfl)) (ne_of_cls aI.1 aT.1 (by kernel_rfl)) (ne_of_cls aC.1 aT.1 (by kernel_rfl))
    have nk : ∀ a ∈ [L, acc, it], ∀ o, h.get? a = some o → o.cls ≠ .type "tuple" := by
      simp only [List.forall_mem_cons]
      refine ⟨fun o e => ?_, fun o e => ?_, fun o e => ?_, by simp⟩
      · rw [aL.1] at e; cases e; simp
      · rw [aA.1] at e; cases e; simp
      · rw [aI.1] at e; cases e; simp
    have tl8 : tqs.length = 8 := rT.length
    have hn8 : n < 8 := h8 n (List.mem_of_getElem? en0)
    have tq : Tup w h q0 (pc n) := by
      obtain ⟨c, hc, t⟩ := rQ.get eq0
      rw [List.getElem?_map, en0] at hc
      cases hc; exact t
    have done : ∀ h6 tk6 (z : Value) hs6 t6 v6 en6 ti6, Gd w h6 → Kp [L, acc, it] h h6 → At w h6 L (nsO #[⟨hs6, .str "piece" t6, v6⟩] en6) → At w h6 acc (lstX (ys.push z) (na + 1)) → At w h6 it (liO (.ref src) (.int (i + 1 : Nat) ti6)) → (∃ t, z = .int (n : Nat) t) →
        codeAny (model pw w) A (.compLoop (ixE ⟨102, 20, 102, 25⟩ ⟨102, 20, 102, 31⟩ ⟨102, 32, 102, 37⟩ ⟨102, 20, 102, 38⟩ ⟨102, 43, 102, 48⟩ ⟨102, 19, 102, 59⟩ iter) 0 (.ref it) (.ref acc) (cEnv ixS L gl [("table", C)] q f co fr bi)) R ⟨h6, g, dr, tk6, os⟩ := by
      intro h6 tk6 z hs6 t6 v6 en6 ti6 G6 K6 bL bA bI hz
      refine ih _ hI' (i + 1) h6 tk6 (na + 1) en6 (ys.push z) _ ti6 hr' (by simp only [Array.size_push]; omega) (.inr ⟨_, _, _, rfl⟩) G6 bL bA bI ⟨K6.2 _ _ hs.1 hn, hs.2⟩ hn (aC.kp K6 (nin3 (ne_of_cls aC.1 aL.1 (by kernel_rfl)) (ne_of_cls aC.1 aA.1 (by kernel_rfl)) (ne_of_cls aC.1 aI.1 (by kernel_rfl)))) (aT.kp K6 (nin3 (ne_of_cls aT.1 aL.1 (by kernel_rfl)) nTa (ne_of_cls aT.1 aI.1 (by kernel_rfl)))) (rT.kpc K6 nk) nTa (rQ.kpc K6 nk) ?_
      intro h' tk' es' en' na' x zs K' G' a b' c' d' e'
      refine k h' tk' es' en' na' x (z :: zs) (K6.trans K' fun _ _ _ q => q) G' a b' (by obtain ⟨t, rfl⟩ := hz; exact .cons _ t c') ?_ e'
      have e : ys ++ (z :: zs).toArray = ys.push z ++ zs.toArray := by
        apply Array.ext'; simp
      rw [e]; exact d'
    obtain ⟨Z, D⟩ : ∃ Z, Rep (KTw w) h [L, acc, it, C, Tb] h [(L, nsO es en), (acc, lstX ys na), (it, liO (.ref src) (.int i ti)), (C, cellO (.ref Tb)), (Tb, lstO (tqs.map .ref) nT)] Z := ⟨_, Rep.init (T := [(L, nsO es en), (acc, lstX ys na), (it, liO (.ref src) (.int i ti)), (C, cellO (.ref Tb)), (Tb, lstO (tqs.map .ref) nT)]) G (oc aL (oc aA (oc aI (oc aC (oc aT on))))) nd⟩
    rcases hes with rfl | ⟨hs1, t1, v1, rfl⟩
    · skip
      refine Mine.start (Q := fun _ _ => True) (E := fun _ _ => True) ?_
      refine eng 2 768 (by exact hA) D (by kernel_rfl) ?_
      intro χ1 h1 D1
      refine hook (c' := .call (.builtin "list_iterator.__next__") ⟨[.ref it], []⟩) (by kernel_rfl) ?_
      have K1 : Kp [] h h1 := Rep.kpF 0 [true, true, true, true, true] D D1 (by kernel_rfl)
      refine li_next_some (i := i) (src := src) (ti := ti) (v := .ref q0) (xs := vs.toArray) (n := ns0) (so := so) (ac_handled hA) D1.gd (D1.at_ 2 (by kernel_rfl)) (K1.2 _ _ hs.1 (nin0 _)) hsd hv ?_
      intro h2 tk2 K2 a2
      refine Exists.elim ((D1.turn (j := 2) (x := (it, liO (.ref src) (.int i ti))) (by kernel_rfl) K2 a2.1).ex) ?_
      intro Z2 D2
      refine eng 18 340282468730680764045040191023886630912 (by exact hA) D2 (by kernel_rfl) ?_
      intro χ3 h3 D3
      refine hook (c' := .call (.builtin "list.index") ⟨[.ref Tb, .ref q0], []⟩) (by kernel_rfl) ?_
      have K3 : Kp [L, acc, it] h h3 := Rep.kpF 0 [false, false, false, true, true] D D3 (by kernel_rfl)
      refine index_spec (n := nT) (r := n) (D3.at_ (a := Tb) (o := lstO (tqs.map .ref) nT) 4 (by kernel_rfl)).1 (rT.kpc K3 nk) (tupKc tq K3 nk) hn8 (depL (b := A.units) 0 (by kernel_rfl) hu rfl) ?_
      intro tk4 v4
      refine eng 1 0 (by exact hA) D3 (by kernel_rfl) ?_
      intro χ5 h5 D5
      refine hook (c' := .call (.builtin "list.append") ⟨[.ref acc, .int (n : Nat) v4], []⟩) (by kernel_rfl) ?_
      refine append_lst (n := na) (xs := ys) (v := .int (n : Nat) v4) (ac_handled hA) (D5.one 1 (by kernel_rfl)) (by omega) ?_
      intro h20 tk20 K20 a20
      refine Exists.elim ((D5.turn (j := 1) (x := (acc, lstX ys na)) (by kernel_rfl) K20 a20.1).ex) ?_
      intro Z20 D20
      refine againC (c' := .compLoop (ixE ⟨102, 20, 102, 25⟩ ⟨102, 20, 102, 31⟩ ⟨102, 32, 102, 37⟩ ⟨102, 20, 102, 38⟩ ⟨102, 43, 102, 48⟩ ⟨102, 19, 102, 59⟩ iter) 0 (.ref it) (.ref acc) (cEnv ixS L gl [("table", C)] q f co fr bi)) (c := .compLoop (ixE ⟨102, 20, 102, 25⟩ ⟨102, 20, 102, 31⟩ ⟨102, 32, 102, 37⟩ ⟨102, 20, 102, 38⟩ ⟨102, 43, 102, 48⟩ ⟨102, 19, 102, 59⟩ iter) 0 (.ref it) (.ref acc) (cEnv ixS L gl [("table", C)] q f co fr bi)) (by kernel_rfl) ?_
      have bL := D20.at_ (a := L) (o := nsO #[⟨eHi (objAt (TT D20) 0) 0, .str "piece" (eKi (objAt (TT D20) 0) 0), .ref q0⟩] (en + 1)) 0 (by kernel_rfl)
      have bA := D20.at_ (a := acc) (o := lstX (ys.push (.int (n : Nat) v4)) (na + 1)) 1 (by kernel_rfl)
      have bI := D20.at_ (a := it) (o := liO (.ref src) (.int (i + 1 : Nat) 0)) 2 (by kernel_rfl)
      exact done h20 _ _ _ _ _ _ 0 D20.gd (Rep.kpF 0 [false, false, false, true, true] D D20 (by kernel_rfl)) bL bA bI ⟨_, rfl⟩
    · skip
      refine Mine.start (Q := fun _ _ => True) (E := fun _ _ => True) ?_
      refine eng 2 768 (by exact hA) D (by kernel_rfl) ?_
      intro χ1 h1 D1
      refine hook (c' := .call (.builtin "list_iterator.__next__") ⟨[.ref it], []⟩) (by kernel_rfl) ?_
      have K1 : Kp [] h h1 := Rep.kpF 0 [true, true, true, true, true] D D1 (by kernel_rfl)
      refine li_next_some (i := i) (src := src) (ti := ti) (v := .ref q0) (xs := vs.toArray) (n := ns0) (so := so) (ac_handled hA) D1.gd (D1.at_ 2 (by kernel_rfl)) (K1.2 _ _ hs.1 (nin0 _)) hsd hv ?_
      intro h2 tk2 K2 a2
      refine Exists.elim ((D1.turn (j := 2) (x := (it, liO (.ref src) (.int i ti))) (by kernel_rfl) K2 a2.1).ex) ?_
      intro Z2 D2
      refine eng 18 340282468730680764045040191023886630912 (by exact hA) D2 (by kernel_rfl) ?_
      intro χ3 h3 D3
      refine hook (c' := .call (.builtin "list.index") ⟨[.ref Tb, .ref q0], []⟩) (by kernel_rfl) ?_
      have K3 : Kp [L, acc, it] h h3 := Rep.kpF 0 [false, false, false, true, true] D D3 (by kernel_rfl)
      refine index_spec (n := nT) (r := n) (D3.at_ (a := Tb) (o := lstO (tqs.map .ref) nT) 4 (by kernel_rfl)).1 (rT.kpc K3 nk) (tupKc tq K3 nk) hn8 (depL (b := A.units) 0 (by kernel_rfl) hu rfl) ?_
      intro tk4 v4
      refine eng 1 0 (by exact hA) D3 (by kernel_rfl) ?_
      intro χ5 h5 D5
      refine hook (c' := .call (.builtin "list.append") ⟨[.ref acc, .int (n : Nat) v4], []⟩) (by kernel_rfl) ?_
      refine append_lst (n := na) (xs := ys) (v := .int (n : Nat) v4) (ac_handled hA) (D5.one 1 (by kernel_rfl)) (by omega) ?_
      intro h20 tk20 K20 a20
      refine Exists.elim ((D5.turn (j := 1) (x := (acc, lstX ys na)) (by kernel_rfl) K20 a20.1).ex) ?_
      intro Z20 D20
      refine againC (c' := .compLoop (ixE ⟨102, 20, 102, 25⟩ ⟨102, 20, 102, 31⟩ ⟨102, 32, 102, 37⟩ ⟨102, 20, 102, 38⟩ ⟨102, 43, 102, 48⟩ ⟨102, 19, 102, 59⟩ iter) 0 (.ref it) (.ref acc) (cEnv ixS L gl [("table", C)] q f co fr bi)) (c := .compLoop (ixE ⟨102, 20, 102, 25⟩ ⟨102, 20, 102, 31⟩ ⟨102, 32, 102, 37⟩ ⟨102, 20, 102, 38⟩ ⟨102, 43, 102, 48⟩ ⟨102, 19, 102, 59⟩ iter) 0 (.ref it) (.ref acc) (cEnv ixS L gl [("table", C)] q f co fr bi)) (by kernel_rfl) ?_
      have bL := D20.at_ (a := L) (o := nsO #[⟨eHi (objAt (TT D20) 0) 0, .str "piece" (eKi (objAt (TT D20) 0) 0), .ref q0⟩] (en)) 0 (by kernel_rfl)
      have bA := D20.at_ (a := acc) (o := lstX (ys.push (.int (n : Nat) v4)) (na + 1)) 1 (by kernel_rfl)
      have bI := D20.at_ (a := it) (o := liO (.ref src) (.int (i + 1 : Nat) 0)) 2 (by kernel_rfl)
      exact done h20 _ _ _ _ _ _ 0 D20.gd (Rep.kpF 0 [false, false, false, true, true] D D20 (by kernel_rfl)) bL bA bI ⟨_, rfl⟩
theorem comp_ix {L acc it src : Addr} {ns0 na en : Nat} {so : Obj} {vs : List Value} {ti : Tok} {C Tb : Addr} {tqs : List Addr} {nT : Nat} {qs : List Addr} {rks : List Nat} {gl : Addr} {q : Str} {f : Option Addr} {co : Value} {fr : Option Addr} {bi : Addr} {iter : PySem.Expr}
    (hA : A.handled = none) (hu : A.units + 100 < cLine) (hl : qs.length = rks.length) (h8 : ∀ n ∈ rks, n < 8) (hsd : so.data = .seq vs.toArray ns0) {ns : List Nat} (hI : (∃ j, vs = (qs.drop j).map Value.ref ∧ ns = rks.drop j)) (hsz : vs.length ≤ 500)
    (G : Gd w h) (aL : At w h L (nsO #[] en)) (aA : At w h acc (lstX #[] na)) (aI : At w h it (liO (.ref src) (.int 0 ti))) (hs : At w h src so) (hn : src ∉ [L, acc, it]) (aC : At w h C (cellO (.ref Tb))) (aT : At w h Tb (lstO (tqs.map .ref) nT)) (rT : Row w h tqs pcs) (nTa : Tb ≠ acc) (rQ : Row w h qs (rks.map pc))
    (k : ∀ h' tk' es' en' na' v (zs : List Value), Kp [L, acc, it] h h' → Gd w h' → OneOf "piece" es' → At w h' L (nsO es' en') → NatsAre zs (ns) → At w h' acc (lstX zs.toArray na') → At w h' it (liO .none v) → R (.ok .next) ⟨h', g, dr, tk', os⟩) :
    codeAny (model pw w) A (.compStart (ixE ⟨102, 20, 102, 25⟩ ⟨102, 20, 102, 31⟩ ⟨102, 32, 102, 37⟩ ⟨102, 20, 102, 38⟩ ⟨102, 43, 102, 48⟩ ⟨102, 19, 102, 59⟩ iter) 0 (.ref it) (.ref acc) (cEnv ixS L gl [("table", C)] q f co fr bi)) R ⟨h, g, dr, tk, os⟩ := by
  refine comp_start hA G aI fun h1 tk1 K1 G1 => ?_
  refine comp_ix_loop (src := src) (so := so) (ns0 := ns0) (vs := vs) hA hu hl h8 hsd vs ns hI 0 h1 tk1 na en #[] #[] ti rfl (by simpa using hsz) (.inl rfl) G1 (aL.kp K1 (nin0 _)) (aA.kp K1 (nin0 _)) (aI.kp K1 (nin0 _)) (hs.kp K1 (nin0 _)) hn (aC.kp K1 (nin0 _)) (aT.kp K1 (nin0 _)) (rT.kp0 K1) nTa (rQ.kp0 K1) ?_
  intro h' tk' es' en' na' v zs K' G' o a b c d
  refine k h' tk' es' en' na' v zs ((K1.weak (by simp)).trans K' fun _ _ _ q => q) G' o a b ?_ d
  simpa using c
inductive LsAre (w : World) (h : Heap) : List Value → List (List Nat) → Prop
  | nil : LsAre w h [] []
  | cons {l : Addr} {r : List Nat} {zs : List Value} {rows : List (List Nat)} : LsR w h l (r.map pc) → LsAre w h zs rows → LsAre w h (.ref l :: zs) (r :: rows)
theorem LsR.kpc {h h' : Heap} {ks : List Addr} {l : Addr} {cs : List (Str × Str)} (x : LsR w h l cs) (K : Kp ks h h') (hl : l ∉ ks) (nk : ∀ a ∈ ks, ∀ o, h.get? a = some o → o.cls ≠ .type "tuple") : LsR w h' l cs := by
  obtain ⟨qs, n, a, r⟩ := x
  exact ⟨qs, n, a.kp K hl, r.kpc K nk⟩
theorem nk3 {L acc it : Addr} {o1 o2 o3 : Obj} (a : At w h L o1) (b : At w h acc o2) (c : At w h it o3) (n1 : o1.cls ≠ .type "tuple") (n2 : o2.cls ≠ .type "tuple") (n3 : o3.cls ≠ .type "tuple") : ∀ x ∈ [L, acc, it], ∀ o, h.get? x = some o → o.cls ≠ .type "tuple" := by
  simp only [List.forall_mem_cons]
  refine ⟨fun o e => ?_, fun o e => ?_, fun o e => ?_, by simp⟩
  · rw [a.1] at e; cases e; exact n1
  · rw [b.1] at e; cases e; exact n2
  · rw [c.1] at e; cases e; exact n3
theorem comp_tr_loop {L acc it src : Addr} {ns0 : Nat} {so : Obj} {vs : List Value} {C Tb : Addr} {tqs : List Addr} {nT : Nat} {gl : Addr} {q : Str} {f : Option Addr} {co : Value} {fr : Option Addr} {bi : Addr} {iter : PySem.Expr} {p1 p2 p3 p4 p5 p6 : Pos}
    (hA : A.handled = none)  (hsd : so.data = .seq vs.toArray ns0) :
    ∀ (rest : List Value) (ns : List Nat) (hI : (NatsAre rest ns ∧ ∀ n ∈ ns, n < 8)) (i : Nat) (h : Heap) (tk : Nat) (na en : Nat) (ys : Array Value) (es : Array DictEntry) (ti : Tok), vs.drop i = rest → ys.size + rest.length ≤ 500 → OneOf "rank" es →
    Gd w h → At w h L (nsO es en) → At w h acc (lstX ys na) → At w h it (liO (.ref src) (.int i ti)) → At w h src so → src ∉ [L, acc, it] → At w h C (cellO (.ref Tb)) → At w h Tb (lstO (tqs.map .ref) nT) → Row w h tqs pcs → Tb ≠ acc →
    (∀ h' tk' es' en' na' v (zs : List Value), Kp [L, acc, it] h h' → Gd w h' → OneOf "rank" es' → At w h' L (nsO es' en') → LsAre w h' zs (ns.map (fun n => [n])) → At w h' acc (lstX (ys ++ zs.toArray) na') → At w h' it (liO .none v) → R (.ok .next) ⟨h', g, dr, tk', os⟩) →
    codeAny (model pw w) A (.compLoop (trE p1 p2 p3 p4 p5 p6 iter) 0 (.ref it) (.ref acc) (cEnv trS L gl [("table", C)] q f co fr bi)) R ⟨h, g, dr, tk, os⟩ := by
  intro rest
  induction rest with
  | nil =>
    intro ns hI i h tk na en ys es ti hr hsz hes G aL aA aI hs hn aC aT rT nTa k
    cases hI.1
    obtain ⟨Z, D⟩ : ∃ Z, Rep (KTw w) h [L, acc, it] h [(L, nsO es en), (acc, lstX ys na), (it, liO (.ref src) (.int i ti))] Z := Rep.initC (T := [(L, nsO es en), (acc, lstX ys na), (it, liO (.ref src) (.int i ti))]) G (oc aL (oc aA (oc aI on))) (by kernel_rfl)
    refine Mine.start (Q := fun _ _ => True) (E := fun _ _ => True) ?_
    refine eng 2 768 (by exact hA) D (by kernel_rfl) ?_
    intro χ1 h1 D1
    refine hook (c' := .call (.builtin "list_iterator.__next__") ⟨[.ref it], []⟩) (by kernel_rfl) ?_
    have hi : vs.length ≤ i := List.drop_eq_nil_iff.mp hr
    refine li_next_none (i := i) (src := src) (ti := ti) (xs := vs.toArray) (n := ns0) (so := so) (ac_handled hA) D1.gd (D1.at_ 2 (by kernel_rfl)) (D1.keep.2 _ _ hs.1 hn) hsd (by simp [hi]) ?_
    intro h2 tk2 e t K2 a2 ae he
    refine Exists.elim ((D1.turnPlus (j := 2) (x := (it, liO (.ref src) (.int i ti))) (by kernel_rfl) K2 a2.1 ae he).ex) ?_
    intro Z2 D2
    refine eng 1 1 (by exact hA) D2 (by kernel_rfl) ?_
    intro χ3 h3 D3
    refine fin (f := .next) (by kernel_rfl) ?_
    refine k h3 _ es en na (.int i ti) [] D3.keep D3.gd hes (D3.at_ 1 (by kernel_rfl)) .nil ?_ (D3.at_ 3 (by kernel_rfl))
    have := D3.at_ (a := acc) (o := lstX ys na) 2 (by kernel_rfl)
    simpa using this
  | cons v rest ih =>
    intro ns hI i h tk na en ys es ti hr hsz hes G aL aA aI hs hn aC aT rT nTa k
    obtain ⟨hI1, hI2⟩ := hI
    obtain ⟨n, t, ns, rfl, rfl, hI3⟩ := hI1.inv
    have hn8 := hI2 n (.head _)
    have hI' : NatsAre rest ns ∧ ∀ n ∈ ns, n < 8 := ⟨hI3, fun x hx => hI2 x (.tail _ hx)⟩
    have hv : vs.toArray[i]? = some (.int (n : Nat) t) := by
      have := List.head?_drop (l := vs) (i := i)
      rw [hr] at this
      simp [← this]
    have hr' : vs.drop (i + 1) = rest := by rw [← List.drop_drop, hr]; rfl
    have hsz' : ys.size + rest.length + 1 ≤ 500 := by simp only [List.length_cons] at hsz; omega
    have nd : [L, acc, it, C, Tb].Nodup := nd5x (ne_of_cls aL.1 aA.1 (by kernel_rfl)) (ne_of_cls aL.1 aI.1 (by kernel_rfl)) (ne_of_cls aL.1 aC.1 (by kernel_rfl)) (ne_of_cls aL.1 aT.1 (by kernel_rfl)) (ne_of_cls aA.1 aI.1 (by kernel_rfl)) (ne_of_cls aA.1 aC.1 (by kernel_rfl)) (Ne.symm nTa) (ne_of_cls aI.1 aC.1 (by kernel_rfl)) (ne_of_cls aI.1 aT.1 (by kernel_rfl)) (ne_of_cls aC.1 aT.1 (by kernel_rfl))
    have nk : ∀ a ∈ [L, acc, it], ∀ o, h.get? a = some o → o.cls ≠ .type "tuple" := by
      simp only [List.forall_mem_cons]
      refine ⟨fun o e => ?_, fun o e => ?_, fun o e => ?_, by simp⟩
      · rw [aL.1] at e; cases e; simp
      · rw [aA.1] at e; cases e; simp
      · rw [aI.1] at e; cases e; simp
    have tl8 : tqs.length = 8 := rT.length
    obtain ⟨tq0, hq0⟩ : ∃ a, tqs[n]? = some a := ⟨_, List.getElem?_eq_getElem (by omega)⟩
    have tq : Tup w h tq0 (pc n) := by
      obtain ⟨c, hc, t⟩ := rT.get hq0
      rw [pcs_get _ hn8] at hc
      cases hc; exact t
    have done : ∀ h6 tk6 (z : Value) hs6 t6 v6 en6 ti6, Gd w h6 → Kp [L, acc, it] h h6 → At w h6 L (nsO #[⟨hs6, .str "rank" t6, v6⟩] en6) → At w h6 acc (lstX (ys.push z) (na + 1)) → At w h6 it (liO (.ref src) (.int (i + 1 : Nat) ti6)) → (∃ l, z = .ref l ∧ l ≠ acc ∧ LsR w h6 l [pc n]) →
        codeAny (model pw w) A (.compLoop (trE p1 p2 p3 p4 p5 p6 iter) 0 (.ref it) (.ref acc) (cEnv trS L gl [("table", C)] q f co fr bi)) R ⟨h6, g, dr, tk6, os⟩ := by
      intro h6 tk6 z hs6 t6 v6 en6 ti6 G6 K6 bL bA bI hz
      refine ih _ hI' (i + 1) h6 tk6 (na + 1) en6 (ys.push z) _ ti6 hr' (by simp only [Array.size_push]; omega) (.inr ⟨_, _, _, rfl⟩) G6 bL bA bI ⟨K6.2 _ _ hs.1 hn, hs.2⟩ hn (aC.kp K6 (nin3 (ne_of_cls aC.1 aL.1 (by kernel_rfl)) (ne_of_cls aC.1 aA.1 (by kernel_rfl)) (ne_of_cls aC.1 aI.1 (by kernel_rfl)))) (aT.kp K6 (nin3 (ne_of_cls aT.1 aL.1 (by kernel_rfl)) nTa (ne_of_cls aT.1 aI.1 (by kernel_rfl)))) (rT.kpc K6 nk) nTa ?_
      intro h' tk' es' en' na' x zs K' G' a b' c' d' e'
      refine k h' tk' es' en' na' x (z :: zs) (K6.trans K' fun _ _ _ q => q) G' a b' (by obtain ⟨l, rfl, hla, hlr⟩ := hz; exact .cons (hlr.kpc K' (by obtain ⟨_, _, al, _⟩ := hlr; exact nin3 (ne_of_cls al.1 bL.1 (by kernel_rfl)) hla (ne_of_cls al.1 bI.1 (by kernel_rfl))) (nk3 bL bA bI (by simp) (by simp) (by simp))) c') ?_ e'
      have e : ys ++ (z :: zs).toArray = ys.push z ++ zs.toArray := by
        apply Array.ext'; simp
      rw [e]; exact d'
    obtain ⟨Z, D⟩ : ∃ Z, Rep (KTw w) h [L, acc, it, C, Tb] h [(L, nsO es en), (acc, lstX ys na), (it, liO (.ref src) (.int i ti)), (C, cellO (.ref Tb)), (Tb, lstO (tqs.map .ref) nT)] Z := ⟨_, Rep.init (T := [(L, nsO es en), (acc, lstX ys na), (it, liO (.ref src) (.int i ti)), (C, cellO (.ref Tb)), (Tb, lstO (tqs.map .ref) nT)]) G (oc aL (oc aA (oc aI (oc aC (oc aT on))))) nd⟩
    rcases hes with rfl | ⟨hs1, t1, v1, rfl⟩
    · skip
      refine Mine.start (Q := fun _ _ => True) (E := fun _ _ => True) ?_
      refine eng 2 768 (by exact hA) D (by kernel_rfl) ?_
      intro χ1 h1 D1
      refine hook (c' := .call (.builtin "list_iterator.__next__") ⟨[.ref it], []⟩) (by kernel_rfl) ?_
      have K1 : Kp [] h h1 := Rep.kpF 0 [true, true, true, true, true] D D1 (by kernel_rfl)
      refine li_next_some (i := i) (src := src) (ti := ti) (v := .int (n : Nat) t) (xs := vs.toArray) (n := ns0) (so := so) (ac_handled hA) D1.gd (D1.at_ 2 (by kernel_rfl)) (K1.2 _ _ hs.1 (nin0 _)) hsd hv ?_
      intro h2 tk2 K2 a2
      refine Exists.elim ((D1.turn (j := 2) (x := (it, liO (.ref src) (.int i ti))) (by kernel_rfl) K2 a2.1).ex) ?_
      intro Z2 D2
      refine eng 16 6672202875574775660301085170416484352 (by exact hA) D2 (by kernel_rfl) ?_
      intro χ3 h3 D3
      refine hook2 (fun u v => .call (.builtin "list.__getitem__") ⟨[.ref Tb, .int (n : Nat) v], []⟩) (by kernel_rfl) ?_
      intro x5 y5
      refine getitem_spec (v := .ref tq0) (vs := tqs.map Value.ref) (n := nT) (D3.at_ (a := Tb) (o := lstO (tqs.map .ref) nT) 4 (by kernel_rfl)).1 (get_map hq0) (by simp; omega) ?_
      refine eng 1 0 (by exact hA) D3 (by kernel_rfl) ?_
      intro χ4 h4 D4
      refine hook (c' := .call (.builtin "list.append") ⟨[.ref acc, .ref (adrAt χ4.T 0)], []⟩) (by kernel_rfl) ?_
      refine append_lst (n := na) (xs := ys) (v := .ref (adrAt χ4.T 0)) (ac_handled hA) (D4.one 2 (by kernel_rfl)) (by omega) ?_
      intro h20 tk20 K20 a20
      refine Exists.elim ((D4.turn (j := 2) (x := (acc, lstX ys na)) (by kernel_rfl) K20 a20.1).ex) ?_
      intro Z20 D20
      refine againC (c' := .compLoop (trE p1 p2 p3 p4 p5 p6 iter) 0 (.ref it) (.ref acc) (cEnv trS L gl [("table", C)] q f co fr bi)) (c := .compLoop (trE p1 p2 p3 p4 p5 p6 iter) 0 (.ref it) (.ref acc) (cEnv trS L gl [("table", C)] q f co fr bi)) (by kernel_rfl) ?_
      have bL := D20.at_ (a := L) (o := nsO #[⟨eHi (objAt (TT D20) 1) 0, .str "rank" (eKi (objAt (TT D20) 1) 0), .int (n : Nat) t⟩] (en + 1)) 1 (by kernel_rfl)
      have bA := D20.at_ (a := acc) (o := lstX (ys.push (.ref (adrAt χ4.T 0))) (na + 1)) 2 (by kernel_rfl)
      have bI := D20.at_ (a := it) (o := liO (.ref src) (.int (i + 1 : Nat) 0)) 3 (by kernel_rfl)
      exact done h20 _ _ _ _ _ _ 0 D20.gd (Rep.kpF 1 [false, false, false, true, true] D D20 (by kernel_rfl)) bL bA bI ⟨_, rfl, D20.apart (a := adrAt χ4.T 0) (o := lstO [.ref tq0] 0) (b := acc) (o' := objAt (TT D20) 2) 0 2 (by kernel_rfl), ⟨[tq0], 0, D20.at_ (a := adrAt χ4.T 0) (o := lstO [.ref tq0] 0) 0 (by kernel_rfl), .cons (tupKc tq (Rep.kpF (ks' := [L, acc, it]) 1 [false, false, false, true, true] D D20 (by kernel_rfl)) nk) .nil⟩⟩
    · skip
      refine Mine.start (Q := fun _ _ => True) (E := fun _ _ => True) ?_
      refine eng 2 768 (by exact hA) D (by kernel_rfl) ?_
      intro χ1 h1 D1
      refine hook (c' := .call (.builtin "list_iterator.__next__") ⟨[.ref it], []⟩) (by kernel_rfl) ?_
      have K1 : Kp [] h h1 := Rep.kpF 0 [true, true, true, true, true] D D1 (by kernel_rfl)
      refine li_next_some (i := i) (src := src) (ti := ti) (v := .int (n : Nat) t) (xs := vs.toArray) (n := ns0) (so := so) (ac_handled hA) D1.gd (D1.at_ 2 (by kernel_rfl)) (K1.2 _ _ hs.1 (nin0 _)) hsd hv ?_
      intro h2 tk2 K2 a2
      refine Exists.elim ((D1.turn (j := 2) (x := (it, liO (.ref src) (.int i ti))) (by kernel_rfl) K2 a2.1).ex) ?_
      intro Z2 D2
      refine eng 16 6672202875574775660301085170416484352 (by exact hA) D2 (by kernel_rfl) ?_
      intro χ3 h3 D3
      refine hook2 (fun u v => .call (.builtin "list.__getitem__") ⟨[.ref Tb, .int (n : Nat) v], []⟩) (by kernel_rfl) ?_
      intro x5 y5
      refine getitem_spec (v := .ref tq0) (vs := tqs.map Value.ref) (n := nT) (D3.at_ (a := Tb) (o := lstO (tqs.map .ref) nT) 4 (by kernel_rfl)).1 (get_map hq0) (by simp; omega) ?_
      refine eng 1 0 (by exact hA) D3 (by kernel_rfl) ?_
      intro χ4 h4 D4
      refine hook (c' := .call (.builtin "list.append") ⟨[.ref acc, .ref (adrAt χ4.T 0)], []⟩) (by kernel_rfl) ?_
      refine append_lst (n := na) (xs := ys) (v := .ref (adrAt χ4.T 0)) (ac_handled hA) (D4.one 2 (by kernel_rfl)) (by omega) ?_
      intro h20 tk20 K20 a20
      refine Exists.elim ((D4.turn (j := 2) (x := (acc, lstX ys na)) (by kernel_rfl) K20 a20.1).ex) ?_
      intro Z20 D20
      refine againC (c' := .compLoop (trE p1 p2 p3 p4 p5 p6 iter) 0 (.ref it) (.ref acc) (cEnv trS L gl [("table", C)] q f co fr bi)) (c := .compLoop (trE p1 p2 p3 p4 p5 p6 iter) 0 (.ref it) (.ref acc) (cEnv trS L gl [("table", C)] q f co fr bi)) (by kernel_rfl) ?_
      have bL := D20.at_ (a := L) (o := nsO #[⟨eHi (objAt (TT D20) 1) 0, .str "rank" (eKi (objAt (TT D20) 1) 0), .int (n : Nat) t⟩] (en)) 1 (by kernel_rfl)
      have bA := D20.at_ (a := acc) (o := lstX (ys.push (.ref (adrAt χ4.T 0))) (na + 1)) 2 (by kernel_rfl)
      have bI := D20.at_ (a := it) (o := liO (.ref src) (.int (i + 1 : Nat) 0)) 3 (by kernel_rfl)
      exact done h20 _ _ _ _ _ _ 0 D20.gd (Rep.kpF 1 [false, false, false, true, true] D D20 (by kernel_rfl)) bL bA bI ⟨_, rfl, D20.apart (a := adrAt χ4.T 0) (o := lstO [.ref tq0] 0) (b := acc) (o' := objAt (TT D20) 2) 0 2 (by kernel_rfl), ⟨[tq0], 0, D20.at_ (a := adrAt χ4.T 0) (o := lstO [.ref tq0] 0) 0 (by kernel_rfl), .cons (tupKc tq (Rep.kpF (ks' := [L, acc, it]) 1 [false, false, false, true, true] D D20 (by kernel_rfl)) nk) .nil⟩⟩
theorem comp_tr {L acc it src : Addr} {ns0 na en : Nat} {so : Obj} {vs : List Value} {ti : Tok} {C Tb : Addr} {tqs : List Addr} {nT : Nat} {gl : Addr} {q : Str} {f : Option Addr} {co : Value} {fr : Option Addr} {bi : Addr} {iter : PySem.Expr} {p1 p2 p3 p4 p5 p6 : Pos}
    (hA : A.handled = none)  (hsd : so.data = .seq vs.toArray ns0) {ns : List Nat} (hI : (NatsAre vs ns ∧ ∀ n ∈ ns, n < 8)) (hsz : vs.length ≤ 500)
    (G : Gd w h) (aL : At w h L (nsO #[] en)) (aA : At w h acc (lstX #[] na)) (aI : At w h it (liO (.ref src) (.int 0 ti))) (hs : At w h src so) (hn : src ∉ [L, acc, it]) (aC : At w h C (cellO (.ref Tb))) (aT : At w h Tb (lstO (tqs.map .ref) nT)) (rT : Row w h tqs pcs) (nTa : Tb ≠ acc)
    (k : ∀ h' tk' es' en' na' v (zs : List Value), Kp [L, acc, it] h h' → Gd w h' → OneOf "rank" es' → At w h' L (nsO es' en') → LsAre w h' zs (ns.map (fun n => [n])) → At w h' acc (lstX zs.toArray na') → At w h' it (liO .none v) → R (.ok .next) ⟨h', g, dr, tk', os⟩) :
    codeAny (model pw w) A (.compStart (trE p1 p2 p3 p4 p5 p6 iter) 0 (.ref it) (.ref acc) (cEnv trS L gl [("table", C)] q f co fr bi)) R ⟨h, g, dr, tk, os⟩ := by
  refine comp_start hA G aI fun h1 tk1 K1 G1 => ?_
  refine comp_tr_loop (src := src) (so := so) (ns0 := ns0) (vs := vs) hA hsd vs ns hI 0 h1 tk1 na en #[] #[] ti rfl (by simpa using hsz) (.inl rfl) G1 (aL.kp K1 (nin0 _)) (aA.kp K1 (nin0 _)) (aI.kp K1 (nin0 _)) (hs.kp K1 (nin0 _)) hn (aC.kp K1 (nin0 _)) (aT.kp K1 (nin0 _)) (rT.kp0 K1) nTa ?_
  intro h' tk' es' en' na' v zs K' G' o a b c d
  refine k h' tk' es' en' na' v zs ((K1.weak (by simp)).trans K' fun _ _ _ q => q) G' o a b ?_ d
  simpa using c
end Mine
namespace Mine
open PySem PySem.W PySem.W.X PyProof.Rows
variable {w : World} {A : Around} {R : Result → Shared → Prop} {h : Heap} {g : Array GenState} {dr : Drawn} {tk : Nat} {os : OsState}
def exE : List Stmt → Expr
  | .Expr e _ :: _ => e
  | _ => noE
def exP : List Stmt → Pos
  | .Expr _ p :: _ => p
  | _ => default
section
variable {w : World} {A : Around} {E : Value → Shared → Prop} {s : Shared} {env : Env}
theorem atCut' (k : Nat) {c : Code} {b : List Stmt} {Q : Flow → Shared → Prop}
    (h : wpAny (model pw w) A (execs (b.take k) env) (fun f s' => match f with | .next => PySem.wpAt (model pw w) A c (execs (b.drop k) env) Q E s' | f => Q f s') E s) :
    PySem.wpAt (model pw w) A c (execs b env) Q E s := by
  intro Γ p hc hΓ
  refine cutAt k b p s (Sem.wp_mono _ Γ _ (fun f p' s' h' => ?_) (fun _ _ _ h' => h') _ _ (h Γ p hΓ))
  cases f <;> first | exact h' Γ p' hc hΓ | exact h'
theorem atExpr' {c : Code} {b : List Stmt} {Q : Flow → Shared → Prop} (e : b = .Expr (exE b) (exP b) :: b.tail) (hi : interactive env = false) (hs : swapsWith (exE b) none (exP b).line env = pure false)
    (h : PySem.wpAt (model pw w) A c (eval (exE b) env) (fun _ s' => PySem.wpAt (model pw w) A c (execs b.tail env) Q E s') E s) : PySem.wpAt (model pw w) A c (execs b env) Q E s := by
  rw [e]
  exact ks_wpAt_execs_cons (ks_wpAt_Expr_any h hi hs)
end
def eH (o : Obj) : Int := match o.data with
  | .dict es _ => match es[0]? with
    | some e => e.hash
    | none => 0
  | _ => 0
def eK (o : Obj) : Tok := match o.data with
  | .dict es _ => match es[0]? with
    | some e => vT (some e.key)
    | none => 0
  | _ => 0
def eV (o : Obj) : Tok := match o.data with
  | .dict es _ => match es[0]? with
    | some e => match e.val with
      | .int _ t => t
      | _ => 0
    | none => 0
  | _ => 0
theorem atNil' {E : Value → Shared → Prop} {s : Shared} {env : Env} {c : Code} {b : List Stmt} {Q : Flow → Shared → Prop} (e : b = []) (h : Q .next s) : PySem.wpAt (model pw w) A c (execs b env) Q E s := by
  rw [e]
  exact PySem.wpAt_of_wpAny (wpAny_execs_nil h)
abbrev dct0 : Obj := { cls := .type "dict", data := .dict #[] 0 }
set_option maxHeartbeats 0 in
theorem init_spec {p d : Addr} {n : Nat} {f : Int} {ft : Tok}
    (hA : A.handled = none) (hd : A.depth + 1 < recursionLimit) (G : Gd w h) (hp : At w h (p + 182) (accO d [] n)) (hdd : At w h d dct0)
    (k : ∀ h' tk' n' hs t1 t2, Kp [p + 182, d] h h' → At w h' (p + 182) (accO d [] n') → At w h' d (dctO hs t1 f t2) → R (.ok (.ret .none)) ⟨h', g, dr, tk', os⟩) :
    codeAny (model pw w) A (.call (.ref 38) ⟨[.ref (p + 182), .int f ft], []⟩) R ⟨h, g, dr, tk, os⟩ := by
  obtain ⟨Z, D⟩ : ∃ Z, Rep (KTw w) h [p + 182, d] h [(p + 182, accO d [] n), (d, dct0)] Z := ⟨_, Rep.init (T := [(p + 182, accO d [] n), (d, dct0)]) G (oc hp (oc hdd on)) (by
    have := ne_of_cls hp.1 hdd.1 (by kernel_rfl)
    simpa using this)⟩
  refine start (Q := fun _ _ => True) (E := fun _ _ => True) ?_
  refine eng 12 310693935713298766914125824 (by exact hA) D (by kernel_rfl) ?_
  intro χ0 h0 D0
  refine enterB 38 0 D0 (by kernel_rfl) (by omega) ?_
  refine ks_codeAny_funcAt ?_
  refine atCut' 1 ?_
  refine top_execs (R := R) ?_
  intro θ
  refine eng 29 317175824237795989885035423473730773280383705469039340441756041216 (by exact hA) D0 (by kernel_rfl) ?_
  intro χ1 h1 D1
  refine finQ (f := .done .next) (by kernel_rfl) ?_
  dsimp only [θ, onDone]
  refine atExpr' (by kernel_rfl) (by kernel_rfl) (by kernel_rfl) ?_
  refine atSup (by kernel_rfl) (by kernel_rfl) ?_
  refine ks_wpAt_super_base (env := envAt 38 (fdOf (slook (KTw w) 38)) (adrAt χ0.T 0)) (f := 38) (of := unO (slook (KTw w) 38)) (fd := fdOf (slook (KTw w) 38)) (ar := (fdOf (slook (KTw w) 38)).params.args.headD default)
     (cc := cofA (fdOf (slook (KTw w) 38)).code) (oc := unO (slook (KTw w) (cofA (fdOf (slook (KTw w) 38)).code))) (vs := fldOf (unO (slook (KTw w) (cofA (fdOf (slook (KTw w) 38)).code)))) (tf := vT (fldOf (unO (slook (KTw w) (cofA (fdOf (slook (KTw w) 38)).code))))[2]?) (file := vS (fldOf (unO (slook (KTw w) (cofA (fdOf (slook (KTw w) 38)).code))))[2]?) (by kernel_rfl) (by kernel_rfl) (by kernel_rfl) (by kernel_rfl) (D1.st _ _ (by kernel_rfl)) (by kernel_rfl) (by kernel_rfl) (by kernel_rfl) (D1.st _ _ (by kernel_rfl)) (by kernel_rfl) (by kernel_rfl) (by kernel_rfl) (by kernel_rfl) ?_
  refine top_any (R := R) (fun v => .done (.ret v)) ?_
  intro θ
  refine eng 2 0 (by exact hA) D1 (by kernel_rfl) ?_
  intro χ2 h2 D2
  refine finQ (f := .done (.ret (.type "super"))) (by kernel_rfl) ?_
  intro a ha; cases ha
  refine ⟨rfl, ?_⟩
  refine top_any (R := R) (fun v => .done (.ret v)) ?_
  intro θ
  refine eng 1 0 (by exact hA) D2 (by kernel_rfl) ?_
  intro χ3 h3 D3
  refine finQ (f := .done (.ret (.ref 101))) (by kernel_rfl) ?_
  intro a ha; cases ha
  refine top_any (R := R) (fun v => .done (.ret v)) ?_
  intro θ
  refine eng 1 1 (by exact hA) D3 (by kernel_rfl) ?_
  intro χ4 h4 D4
  refine finQ (f := .done (.ret (.ref (p + 182)))) (by kernel_rfl) ?_
  intro a ha; cases ha
  refine top_any (R := R) (fun v => .done (.ret (.bool v))) ?_
  intro θ
  refine eng 1 0 (by exact hA) D4 (by kernel_rfl) ?_
  intro χ5 h5 D5
  refine finQ (f := .done (.ret (.bool true))) (by kernel_rfl) ?_
  intro a ha; cases ha
  refine ⟨rfl, ?_⟩
  refine top_any (R := R) (fun v => .done (.ret v)) ?_
  intro θ
  refine eng 24 375611652173010656284913367422150316070073794560000 (by exact hA) D5 (by kernel_rfl) ?_
  intro χ6 h6 D6
  refine finQ (f := .done (.ret (.ref (adrAt χ6.T 0)))) (by kernel_rfl) ?_
  intro a ha; cases ha
  refine top_any (R := R) (fun v => .done (.ret v)) ?_
  intro θ
  refine eng 30 422901124092229712774458058493332029045096206953257001885049553152 (by exact hA) D6 (by kernel_rfl) ?_
  intro χ7 h7 D7
  refine finQ (f := .done (.ret .none)) (by kernel_rfl) ?_
  intro a ha; cases ha
  refine atNil' (by kernel_rfl) ?_
  have ad := D7.at_ (a := d) (o := dctO (eH (objAt χ7.T 4)) (eK (objAt χ7.T 4)) f (eV (objAt χ7.T 4))) 4 (by kernel_rfl)
  have ap := D7.at_ (a := p + 182) (o := accO d [] n) 3 (by kernel_rfl)
  exact k h7 _ n _ _ _ D7.keep ap ad
theorem mk_spec {f : Int} {ft : Tok}
    (hA : A.handled = none) (hd : A.depth + 3 < recursionLimit) (hu : A.units + 100 < cLine) (G : Gd w h) (hz : 182 ≤ h.objs.size)
    (k : ∀ h' tk' p d n hs t1 t2, Kp [] h h' → At w h' (p + 182) (accO d [] n) → At w h' d (dctO hs t1 f t2) → h.get? (p + 182) = none → h.get? d = none → R (.ok (.ret (.ref (p + 182)))) ⟨h', g, dr, tk', os⟩) :
    codeAny (model pw w) A (.call (.ref 101) ⟨[.int f ft], []⟩) R ⟨h, g, dr, tk, os⟩ := by
  obtain ⟨Z, D⟩ : ∃ Z, Rep (KTw w) h [] h [] (Z + 182) := ⟨h.objs.size - 182, by
    have := Rep.init (T := []) G (by simp) (by simp)
    have e : h.objs.size - 182 + 182 = h.objs.size := by omega
    rw [e]; exact this⟩
  refine start (Q := fun _ _ => True) (E := fun _ _ => True) ?_
  refine eng 17 0 (by exact hA) D (by kernel_rfl) ?_
  intro χ1 h1 D1
  refine stk (by kernel_rfl) (by kernel_rfl) ?_
  intro ps2 bl2
  refine eng 13 18447025548686262272 (by exact hA) D1 (by kernel_rfl) ?_
  intro χ2 h2 D2
  refine hook (c' := .call (.ref 38) ⟨[.ref (Z + 1 + 182), .int f ft], []⟩) (by kernel_rfl) ?_
  have a0 := D2.at_ (a := Z + 1 + 182) (o := accO (Z + 182) [] 0) 0 (by kernel_rfl)
  have a1 := D2.at_ (a := Z + 182) (o := dct0) 1 (by kernel_rfl)
  refine init_spec (p := Z + 1) (d := Z + 182) (n := 0) (f := f) (ft := ft) (ac_handled hA) (depL (b := A.depth) 1 (by kernel_rfl) hd rfl) D2.gd a0 a1 ?_
  intro h3 tk3 n3 hs3 t1 t2 K3 b0 b1
  have f0 := D2.fresh_ (a := Z + 1 + 182) (o := accO (Z + 182) [] 0) 0 (by kernel_rfl) (by simp)
  have f1 := D2.fresh_ (a := Z + 182) (o := dct0) 1 (by kernel_rfl) (by simp)
  obtain ⟨Z3, D3⟩ := D2.redo (T' := [(Z + 1 + 182, accO (Z + 182) [] n3), (Z + 182, dctO hs3 t1 f t2)]) K3 (by
    have e : χ2.T.map (·.1) = [Z + 1 + 182, Z + 182] := by kernel_rfl
    intro a ha
    show a ∈ χ2.T.map (·.1)
    rw [e]; exact ha) (by kernel_rfl) (oc b0.1 (oc b1.1 on))
  refine fin (f := .ret (.ref (Z + 1 + 182))) (by kernel_rfl) ?_
  have c0 := D3.at_ (a := Z + 1 + 182) (o := accO (Z + 182) [] n3) 0 (by kernel_rfl)
  have c1 := D3.at_ (a := Z + 182) (o := dctO hs3 t1 f t2) 1 (by kernel_rfl)
  exact k h3 _ (Z + 1) (Z + 182) n3 hs3 t1 t2 D3.keep c0 c1 f0 f1
def seqTk (o : Obj) (i : Nat) : Tok := match o.data with
  | .seq xs _ => vT xs[i]?
  | _ => 0
def eN (o : Obj) : Nat := match o.data with
  | .seq _ n => n
  | _ => 0
theorem pop_nil {p d : Addr} {n : Nat} {hs f : Int} {tk1 tk2 : Tok}
    (hA : A.handled = none) (hd : A.depth + 5 < recursionLimit) (G : Gd w h) (hp : At w h (p + 182) (accO d [] n)) (hdd : At w h d (dctO hs tk1 f tk2))
    (k : ∀ h' tk' q, Kp [] h h' → Tup w h' q ("", "") → R (.ok (.ret (.ref q))) ⟨h', g, dr, tk', os⟩) :
    codeAny (model pw w) A (.call (.ref 61) ⟨[.ref (p + 182)], []⟩) R ⟨h, g, dr, tk, os⟩ := by
  obtain ⟨Z, D⟩ : ∃ Z, Rep (KTw w) h [p + 182, d] h [(p + 182, accO d [] n), (d, dctO hs tk1 f tk2)] Z := ⟨_, Rep.init (T := [(p + 182, accO d [] n), (d, dctO hs tk1 f tk2)]) G (oc hp (oc hdd on)) (by
    have := ne_of_cls hp.1 hdd.1 (by kernel_rfl)
    simpa using this)⟩
  refine start (Q := fun _ _ => True) (E := fun _ _ => True) ?_
  refine eng 7 282574488338432 (by exact hA) D (by kernel_rfl) ?_
  intro χ1 h1 D1
  refine enterD 0 61 0 D1 (by kernel_rfl) (by omega) ?_
  refine eng 23 17171573802868620383801719818013054192437952512 (by exact hA) D1 (by kernel_rfl) ?_
  intro χ2 h2 D2
  refine hook (c' := .call (.ref 98) ⟨[.ref (p + 182)], []⟩) (by kernel_rfl) ?_
  refine pc_spec (d := d) (qs := []) (n := n) (ac_handled hA) (depL (b := A.depth) 1 (by kernel_rfl) hd rfl) D2.gd (D2.at_ 1 (by kernel_rfl)) ?_
  intro h3 tk3 t3 K3
  refine Exists.elim ((D2.same K3).ex) ?_
  intro Z3 D3
  refine eng 3 0 (by exact hA) D3 (by kernel_rfl) ?_
  intro χ4 h4 D4
  refine eng2 "special-get-raises" 1 0 1 0 (by exact hA) D4 (by kernel_rfl) ?_
  intro χ5 h5 D5
  refine eng 8 0 (by exact hA) D5 (by kernel_rfl) ?_
  intro χ6 h6 D6
  refine fin (f := .ret (.ref (adrAt χ6.T 0))) (by kernel_rfl) ?_
  have a0 := D6.at_ (a := adrAt χ6.T 0) (o := tupO "" (seqTk (objAt χ6.T 0) 0) "" (seqTk (objAt χ6.T 0) 1)) 0 (by kernel_rfl)
  exact k h6 _ _ (Rep.kpF 2 [true, true] D D6 (by kernel_rfl)) ⟨_, _, a0⟩
set_option maxHeartbeats 0 in
theorem pop_one {p d q : Addr} {n : Nat} {hs f : Int} {tk1 tk2 : Tok}
    (hA : A.handled = none) (hd : A.depth + 5 < recursionLimit) (G : Gd w h) (hp : At w h (p + 182) (accO d [q] n)) (hdd : At w h d (dctO hs tk1 f tk2))
    (k : ∀ h' tk' n', Kp [p + 182] h h' → At w h' (p + 182) (accO d [] n') → R (.ok (.ret (.ref q))) ⟨h', g, dr, tk', os⟩) :
    codeAny (model pw w) A (.call (.ref 61) ⟨[.ref (p + 182)], []⟩) R ⟨h, g, dr, tk, os⟩ := by
  obtain ⟨Z, D⟩ : ∃ Z, Rep (KTw w) h [p + 182, d] h [(p + 182, accO d [q] n), (d, dctO hs tk1 f tk2)] Z := ⟨_, Rep.init (T := [(p + 182, accO d [q] n), (d, dctO hs tk1 f tk2)]) G (oc hp (oc hdd on)) (by
    have := ne_of_cls hp.1 hdd.1 (by kernel_rfl)
    simpa using this)⟩
  refine start (Q := fun _ _ => True) (E := fun _ _ => True) ?_
  refine eng 7 282574488338432 (by exact hA) D (by kernel_rfl) ?_
  intro χ0 h0 D0
  refine enterB 61 0 D0 (by kernel_rfl) (by omega) ?_
  refine ks_codeAny_funcAt ?_
  refine atCut' 1 ?_
  refine top_execs (R := R) ?_
  intro θ
  refine eng 22 67076460167455548374225468039113492939210752 (by exact hA) D0 (by kernel_rfl) ?_
  intro χ1 h1 D1
  refine hook (c' := .call (.ref 98) ⟨[.ref (p + 182)], []⟩) (by kernel_rfl) ?_
  refine pc_spec (d := d) (qs := [q]) (n := n) (ac_handled hA) (depL (b := A.depth) 1 (by kernel_rfl) hd rfl) D1.gd (D1.at_ 1 (by kernel_rfl)) ?_
  intro h2 tk2 t2 K2
  refine Exists.elim ((D1.same K2).ex) ?_
  intro Z2 D2
  refine eng 3 0 (by exact hA) D2 (by kernel_rfl) ?_
  intro χ3 h3 D3
  refine eng2 "special-get-raises" 1 0 1 0 (by exact hA) D3 (by kernel_rfl) ?_
  intro χ4 h4 D4
  refine eng 3 0 (by exact hA) D4 (by kernel_rfl) ?_
  intro χ5 h5 D5
  refine finQ (f := .done .next) (by kernel_rfl) ?_
  dsimp only [θ, onDone]
  refine atRet' (by kernel_rfl) ?_
  refine atSup (by kernel_rfl) (by kernel_rfl) ?_
  refine ks_wpAt_super_base (env := envAt 61 (fdOf (slook (KTw w) 61)) (adrAt χ0.T 0)) (f := 61) (of := unO (slook (KTw w) 61)) (fd := fdOf (slook (KTw w) 61)) (ar := (fdOf (slook (KTw w) 61)).params.args.headD default)
     (cc := cofA (fdOf (slook (KTw w) 61)).code) (oc := unO (slook (KTw w) (cofA (fdOf (slook (KTw w) 61)).code))) (vs := fldOf (unO (slook (KTw w) (cofA (fdOf (slook (KTw w) 61)).code)))) (tf := vT (fldOf (unO (slook (KTw w) (cofA (fdOf (slook (KTw w) 61)).code))))[2]?) (file := vS (fldOf (unO (slook (KTw w) (cofA (fdOf (slook (KTw w) 61)).code))))[2]?) (by kernel_rfl) (by kernel_rfl) (by kernel_rfl) (by kernel_rfl) (D5.st _ _ (by kernel_rfl)) (by kernel_rfl) (by kernel_rfl) (by kernel_rfl) (D5.st _ _ (by kernel_rfl)) (by kernel_rfl) (by kernel_rfl) (by kernel_rfl) (by kernel_rfl) ?_
  refine top_any (R := R) (fun v => .done (.ret v)) ?_
  intro θ
  refine eng 2 0 (by exact hA) D5 (by kernel_rfl) ?_
  intro χ6 h6 D6
  refine finQ (f := .done (.ret (.type "super"))) (by kernel_rfl) ?_
  intro a ha; cases ha
  refine ⟨rfl, ?_⟩
  refine top_any (R := R) (fun v => .done (.ret v)) ?_
  intro θ
  refine eng 1 0 (by exact hA) D6 (by kernel_rfl) ?_
  intro χ7 h7 D7
  refine finQ (f := .done (.ret (.ref 101))) (by kernel_rfl) ?_
  intro a ha; cases ha
  refine top_any (R := R) (fun v => .done (.ret v)) ?_
  intro θ
  refine eng 1 1 (by exact hA) D7 (by kernel_rfl) ?_
  intro χ8 h8 D8
  refine finQ (f := .done (.ret (.ref (p + 182)))) (by kernel_rfl) ?_
  intro a ha; cases ha
  refine top_any (R := R) (fun v => .done (.ret (.bool v))) ?_
  intro θ
  refine eng 1 0 (by exact hA) D8 (by kernel_rfl) ?_
  intro χ9 h9 D9
  refine finQ (f := .done (.ret (.bool true))) (by kernel_rfl) ?_
  intro a ha; cases ha
  refine ⟨rfl, ?_⟩
  refine top_any (R := R) (fun v => .done (.ret v)) ?_
  intro θ
  refine eng 24 375611652173010656284913367422150316070073794560000 (by exact hA) D9 (by kernel_rfl) ?_
  intro χ10 h10 D10
  refine finQ (f := .done (.ret (.ref (adrAt χ10.T 0)))) (by kernel_rfl) ?_
  intro a ha; cases ha
  refine top_any (R := R) (fun v => .done (.ret v)) ?_
  intro θ
  refine eng 36 119036084054743642726454191892500984473175165316541164438800038609392457501114624 (by exact hA) D10 (by kernel_rfl) ?_
  intro χ11 h11 D11
  refine finQ (f := .done (.ret (.ref q))) (by kernel_rfl) ?_
  intro a ha; cases ha
  have ap := D11.at_ (a := p + 182) (o := accO d [] (eN (objAt χ11.T 3))) 3 (by kernel_rfl)
  exact k h11 _ _ (Rep.kpF 3 [false, true] D D11 (by kernel_rfl)) ap
end Mine
namespace Mine
open PySem PySem.W PySem.W.X PyProof.Rows
open PySem.Builtin PySem.SeqAt
set_option maxHeartbeats 0
variable {w : World} {A : Around} {R : Result → Shared → Prop} {h : Heap} {g : Array GenState} {dr : Drawn} {tk : Nat} {os : OsState}
theorem Rep.plus2 {h₀ h h' : Heap} {ks : List Addr} {T : DT} {Z : Nat} {a b : Addr} {o o' : Obj} (D : Rep (KTw w) h₀ ks h T Z) (K : Kp [] h h') (ha : At w h' a o) (hb : At w h' b o') (fa : h.get? a = none) (fb : h.get? b = none) (ne : a ≠ b) : ∃ Z', Rep (KTw w) h₀ ks h' ((a, o) :: (b, o') :: T) Z' := by
  have D1 := (D.same K).more hb.1 (fun p hp q => by have := D.own p hp; rw [q, fb] at this; cases this) hb.2 (.inr (D.keep.fresh fb))
  refine ⟨_, D1.more ha.1 (fun p hp q => ?_) ha.2 (.inr (D.keep.fresh fa))⟩
  rcases List.mem_cons.mp hp with rfl | hp
  · exact ne q.symm
  · have := D.own p hp; rw [q, fa] at this; cases this
inductive MadeL (w : World) (h₀ h' : Heap) : List Value → List Nat → Prop
  | nil : MadeL w h₀ h' [] []
  | cons {p d : Addr} {n : Nat} {s : Int} {t1 t2 : Tok} {zs : List Value} {f : Nat} {fs : List Nat} : At w h' (p + 182) (accO d [] n) → At w h' d (dctO s t1 (f : Nat) t2) → h₀.get? (p + 182) = none → h₀.get? d = none → Value.ref (p + 182) ∉ zs → MadeL w h₀ h' zs fs → MadeL w h₀ h' (.ref (p + 182) :: zs) (f :: fs)
theorem MadeL.base {h h6 h' : Heap} {zs : List Value} {fs : List Nat} {ks : List Addr} (x : MadeL w h6 h' zs fs) (K : Kp ks h h6) : MadeL w h h' zs fs := by
  induction x with
  | nil => exact .nil
  | cons a b e e' n _ ih => exact .cons a b (K.fresh e) (K.fresh e') n ih
theorem MadeL.notin {h h' : Heap} {zs : List Value} {fs : List Nat} {p : Addr} {o : Obj} (x : MadeL w h h' zs fs) (e : h.get? p = some o) : Value.ref p ∉ zs := by
  induction x with
  | nil => simp
  | cons a b e' e2 n _ ih =>
    intro m
    rcases List.mem_cons.mp m with m | m
    · cases m; rw [e] at e'; cases e'
    · exact ih m
abbrev mkS : Scope := ⟨.function, [(nDot, .local), ("first", .local), ("_Accumulator", .globalImplicit)], false, false, []⟩
abbrev mkE (p1 p2 p3 p4 p5 : Pos) (iter : PySem.Expr) : PySem.Expr := .ListComp (.Call (.Name "_Accumulator" p1) [.Name "first" p2] [] p3) [⟨.Name "first" p4, iter, [], 0⟩] mkS p5
theorem comp_mk_loop {L acc it src : Addr} {ns0 : Nat} {so : Obj} {vs : List Value} {q : Str} {f : Option Addr} {co : Value} {fr : Option Addr} {iter : PySem.Expr} {p1 p2 p3 p4 p5 : Pos}
    (hA : A.handled = none) (hd : A.depth + 40 < recursionLimit) (hu : A.units + 200 < cLine) (hsd : so.data = .seq vs.toArray ns0) :
    ∀ (rest : List Value) (ns : List Nat) (hI : NatsAre rest ns) (i : Nat) (h : Heap) (tk : Nat) (na en : Nat) (ys : Array Value) (es : Array DictEntry) (ti : Tok), vs.drop i = rest → ys.size + rest.length ≤ 500 → OneOf "first" es →
    Gd w h → At w h L (nsO es en) → At w h acc (lstX ys na) → At w h it (liO (.ref src) (.int i ti)) → At w h src so → src ∉ [L, acc, it] → (∃ o, h.get? 182 = some o) →
    (∀ h' tk' es' en' na' v (zs : List Value), Kp [L, acc, it] h h' → Gd w h' → OneOf "first" es' → At w h' L (nsO es' en') → MadeL w h h' zs (ns) → At w h' acc (lstX (ys ++ zs.toArray) na') → At w h' it (liO .none v) → R (.ok .next) ⟨h', g, dr, tk', os⟩) →
    codeAny (model pw w) A (.compLoop (mkE p1 p2 p3 p4 p5 iter) 0 (.ref it) (.ref acc) (cEnv mkS L 3 [] q f co fr 0)) R ⟨h, g, dr, tk, os⟩ := by
  intro rest
  induction rest with
  | nil =>
    intro ns hI i h tk na en ys es ti hr hsz hes G aL aA aI hs hn zZ k
    cases hI
    obtain ⟨Z, D⟩ : ∃ Z, Rep (KTw w) h [L, acc, it] h [(L, nsO es en), (acc, lstX ys na), (it, liO (.ref src) (.int i ti))] Z := Rep.initC (T := [(L, nsO es en), (acc, lstX ys na), (it, liO (.ref src) (.int i ti))]) G (oc aL (oc aA (oc aI on))) (by kernel_rfl)
    refine Mine.start (Q := fun _ _ => True) (E := fun _ _ => True) ?_
    refine eng 2 768 (by exact hA) D (by kernel_rfl) ?_
    intro χ1 h1 D1
    refine hook (c' := .call (.builtin "list_iterator.__next__") ⟨[.ref it], []⟩) (by kernel_rfl) ?_
    have hi : vs.length ≤ i := List.drop_eq_nil_iff.mp hr
    refine li_next_none (i := i) (src := src) (ti := ti) (xs := vs.toArray) (n := ns0) (so := so) (ac_handled hA) D1.gd (D1.at_ 2 (by kernel_rfl)) (D1.keep.2 _ _ hs.1 hn) hsd (by simp [hi]) ?_
    intro h2 tk2 e t K2 a2 ae he
    refine Exists.elim ((D1.turnPlus (j := 2) (x := (it, liO (.ref src) (.int i ti))) (by kernel_rfl) K2 a2.1 ae he).ex) ?_
    intro Z2 D2
    refine eng 1 1 (by exact hA) D2 (by kernel_rfl) ?_
    intro χ3 h3 D3
    refine fin (f := .next) (by kernel_rfl) ?_
    refine k h3 _ es en na (.int i ti) [] D3.keep D3.gd hes (D3.at_ 1 (by kernel_rfl)) .nil ?_ (D3.at_ 3 (by kernel_rfl))
    have := D3.at_ (a := acc) (o := lstX ys na) 2 (by kernel_rfl)
    simpa using this
  | cons v rest ih =>
    intro ns hI i h tk na en ys es ti hr hsz hes G aL aA aI hs hn zZ k
    obtain ⟨n, t, ns, rfl, rfl, hI'⟩ := hI.inv
    have hv : vs.toArray[i]? = some (.int (n : Nat) t) := by
      have := List.head?_drop (l := vs) (i := i)
      rw [hr] at this
      simp [← this]
    have hr' : vs.drop (i + 1) = rest := by rw [← List.drop_drop, hr]; rfl
    have hsz' : ys.size + rest.length + 1 ≤ 500 := by simp only [List.length_cons] at hsz; omega
    have done : ∀ h6 tk6 (z : Value) hs6 t6 v6 en6 ti6, Gd w h6 → Kp [L, acc, it] h h6 → At w h6 L (nsO #[⟨hs6, .str "first" t6, v6⟩] en6) → At w h6 acc (lstX (ys.push z) (na + 1)) → At w h6 it (liO (.ref src) (.int (i + 1 : Nat) ti6)) → (∃ p0 d n1 x1 t1 t2, z = .ref (p0 + 182) ∧ At w h6 (p0 + 182) (accO d [] n1) ∧ At w h6 d (dctO x1 t1 (n : Nat) t2) ∧ d ≠ L ∧ h.get? (p0 + 182) = none ∧ h.get? d = none) →
        codeAny (model pw w) A (.compLoop (mkE p1 p2 p3 p4 p5 iter) 0 (.ref it) (.ref acc) (cEnv mkS L 3 [] q f co fr 0)) R ⟨h6, g, dr, tk6, os⟩ := by
      intro h6 tk6 z hs6 t6 v6 en6 ti6 G6 K6 bL bA bI hz
      refine ih _ hI' (i + 1) h6 tk6 (na + 1) en6 (ys.push z) _ ti6 hr' (by simp only [Array.size_push]; omega) (.inr ⟨_, _, _, rfl⟩) G6 bL bA bI ⟨K6.2 _ _ hs.1 hn, hs.2⟩ hn (by obtain ⟨o, e⟩ := zZ; exact K6.1 _ _ e) ?_
      intro h' tk' es' en' na' x zs K' G' a b' c' d' e'
      refine k h' tk' es' en' na' x (z :: zs) (K6.trans K' fun _ _ _ q => q) G' a b' (by obtain ⟨p0, d, n1, x1, t1, t2, rfl, ap, ad, nd, fp, fd⟩ := hz; exact .cons (ap.kp K' (nin3 (ne_of_cls ap.1 bL.1 (by kernel_rfl)) (ne_of_cls ap.1 bA.1 (by kernel_rfl)) (ne_of_cls ap.1 bI.1 (by kernel_rfl)))) (ad.kp K' (nin3 nd (ne_of_cls ad.1 bA.1 (by kernel_rfl)) (ne_of_cls ad.1 bI.1 (by kernel_rfl)))) fp fd (c'.notin ap.1) (c'.base K6)) ?_ e'
      have e : ys ++ (z :: zs).toArray = ys.push z ++ zs.toArray := by
        apply Array.ext'; simp
      rw [e]; exact d'
    obtain ⟨Z, D⟩ : ∃ Z, Rep (KTw w) h [L, acc, it] h [(L, nsO es en), (acc, lstX ys na), (it, liO (.ref src) (.int i ti))] Z := Rep.initC (T := [(L, nsO es en), (acc, lstX ys na), (it, liO (.ref src) (.int i ti))]) G (oc aL (oc aA (oc aI on))) (by kernel_rfl)
    rcases hes with rfl | ⟨hs1, t1, v1, rfl⟩
    · skip
      refine Mine.start (Q := fun _ _ => True) (E := fun _ _ => True) ?_
      refine eng 2 768 (by exact hA) D (by kernel_rfl) ?_
      intro χ1 h1 D1
      refine hook (c' := .call (.builtin "list_iterator.__next__") ⟨[.ref it], []⟩) (by kernel_rfl) ?_
      have K1 : Kp [] h h1 := Rep.kpF 0 [true, true, true] D D1 (by kernel_rfl)
      refine li_next_some (i := i) (src := src) (ti := ti) (v := .int (n : Nat) t) (xs := vs.toArray) (n := ns0) (so := so) (ac_handled hA) D1.gd (D1.at_ 2 (by kernel_rfl)) (K1.2 _ _ hs.1 (nin0 _)) hsd hv ?_
      intro h2 tk2 K2 a2
      refine Exists.elim ((D1.turn (j := 2) (x := (it, liO (.ref src) (.int i ti))) (by kernel_rfl) K2 a2.1).ex) ?_
      intro Z2 D2
      refine eng 14 1208925819615732981301248 (by exact hA) D2 (by kernel_rfl) ?_
      intro χ3 h3 D3
      refine hook (c' := .call (.ref 101) ⟨[.int (n : Nat) t], []⟩) (by kernel_rfl) ?_
      refine mk_spec (f := (n : Nat)) (ac_handled hA) (depL (b := A.depth) 0 (by kernel_rfl) hd rfl) (depL (b := A.units) 0 (by kernel_rfl) hu rfl) D3.gd (by obtain ⟨o, e⟩ := zZ; obtain ⟨o', e'⟩ := D3.keep.1 _ _ e; exact Nat.le_of_lt (Heap.lt_size e')) ?_
      intro h4 tk4 pA d4 n4 hs4 t4 t4' K4 a4 b4 f4 g4
      refine Exists.elim (D3.plus2 K4 a4 b4 f4 g4 (ne_of_cls a4.1 b4.1 (by kernel_rfl))) ?_
      intro Z4 D4
      refine eng 1 0 (by exact hA) D4 (by kernel_rfl) ?_
      intro χ5 h5 D5
      refine hook (c' := .call (.builtin "list.append") ⟨[.ref acc, .ref (pA + 182)], []⟩) (by kernel_rfl) ?_
      refine append_lst (n := na) (xs := ys) (v := .ref (pA + 182)) (ac_handled hA) (D5.one 3 (by kernel_rfl)) (by omega) ?_
      intro h20 tk20 K20 a20
      refine Exists.elim ((D5.turn (j := 3) (x := (acc, lstX ys na)) (by kernel_rfl) K20 a20.1).ex) ?_
      intro Z20 D20
      refine againC (c' := .compLoop (mkE p1 p2 p3 p4 p5 iter) 0 (.ref it) (.ref acc) (cEnv mkS L 3 [] q f co fr 0)) (c := .compLoop (mkE p1 p2 p3 p4 p5 iter) 0 (.ref it) (.ref acc) (cEnv mkS L 3 [] q f co fr 0)) (by kernel_rfl) ?_
      have bL := D20.at_ (a := L) (o := nsO #[⟨eHi (objAt (TT D20) 2) 0, .str "first" (eKi (objAt (TT D20) 2) 0), .int (n : Nat) t⟩] (en + 1)) 2 (by kernel_rfl)
      have bA := D20.at_ (a := acc) (o := lstX (ys.push (.ref (pA + 182))) (na + 1)) 3 (by kernel_rfl)
      have bI := D20.at_ (a := it) (o := liO (.ref src) (.int (i + 1 : Nat) 0)) 4 (by kernel_rfl)
      exact done h20 _ _ _ _ _ _ 0 D20.gd (Rep.kpF 2 [false, false, false] D D20 (by kernel_rfl)) bL bA bI ⟨pA, d4, n4, hs4, t4, t4', rfl, D20.at_ (a := pA + 182) (o := accO d4 [] n4) 0 (by kernel_rfl), D20.at_ (a := d4) (o := dctO hs4 t4 (n : Nat) t4') 1 (by kernel_rfl), D20.apart (a := d4) (o := dctO hs4 t4 (n : Nat) t4') (b := L) (o' := objAt (TT D20) 2) 1 2 (by kernel_rfl), D3.keep.fresh f4, D3.keep.fresh g4⟩
    · skip
      refine Mine.start (Q := fun _ _ => True) (E := fun _ _ => True) ?_
      refine eng 2 768 (by exact hA) D (by kernel_rfl) ?_
      intro χ1 h1 D1
      refine hook (c' := .call (.builtin "list_iterator.__next__") ⟨[.ref it], []⟩) (by kernel_rfl) ?_
      have K1 : Kp [] h h1 := Rep.kpF 0 [true, true, true] D D1 (by kernel_rfl)
      refine li_next_some (i := i) (src := src) (ti := ti) (v := .int (n : Nat) t) (xs := vs.toArray) (n := ns0) (so := so) (ac_handled hA) D1.gd (D1.at_ 2 (by kernel_rfl)) (K1.2 _ _ hs.1 (nin0 _)) hsd hv ?_
      intro h2 tk2 K2 a2
      refine Exists.elim ((D1.turn (j := 2) (x := (it, liO (.ref src) (.int i ti))) (by kernel_rfl) K2 a2.1).ex) ?_
      intro Z2 D2
      refine eng 14 1208925819615732981301248 (by exact hA) D2 (by kernel_rfl) ?_
      intro χ3 h3 D3
      refine hook (c' := .call (.ref 101) ⟨[.int (n : Nat) t], []⟩) (by kernel_rfl) ?_
      refine mk_spec (f := (n : Nat)) (ac_handled hA) (depL (b := A.depth) 0 (by kernel_rfl) hd rfl) (depL (b := A.units) 0 (by kernel_rfl) hu rfl) D3.gd (by obtain ⟨o, e⟩ := zZ; obtain ⟨o', e'⟩ := D3.keep.1 _ _ e; exact Nat.le_of_lt (Heap.lt_size e')) ?_
      intro h4 tk4 pA d4 n4 hs4 t4 t4' K4 a4 b4 f4 g4
      refine Exists.elim (D3.plus2 K4 a4 b4 f4 g4 (ne_of_cls a4.1 b4.1 (by kernel_rfl))) ?_
      intro Z4 D4
      refine eng 1 0 (by exact hA) D4 (by kernel_rfl) ?_
      intro χ5 h5 D5
      refine hook (c' := .call (.builtin "list.append") ⟨[.ref acc, .ref (pA + 182)], []⟩) (by kernel_rfl) ?_
      refine append_lst (n := na) (xs := ys) (v := .ref (pA + 182)) (ac_handled hA) (D5.one 3 (by kernel_rfl)) (by omega) ?_
      intro h20 tk20 K20 a20
      refine Exists.elim ((D5.turn (j := 3) (x := (acc, lstX ys na)) (by kernel_rfl) K20 a20.1).ex) ?_
      intro Z20 D20
      refine againC (c' := .compLoop (mkE p1 p2 p3 p4 p5 iter) 0 (.ref it) (.ref acc) (cEnv mkS L 3 [] q f co fr 0)) (c := .compLoop (mkE p1 p2 p3 p4 p5 iter) 0 (.ref it) (.ref acc) (cEnv mkS L 3 [] q f co fr 0)) (by kernel_rfl) ?_
      have bL := D20.at_ (a := L) (o := nsO #[⟨eHi (objAt (TT D20) 2) 0, .str "first" (eKi (objAt (TT D20) 2) 0), .int (n : Nat) t⟩] (en)) 2 (by kernel_rfl)
      have bA := D20.at_ (a := acc) (o := lstX (ys.push (.ref (pA + 182))) (na + 1)) 3 (by kernel_rfl)
      have bI := D20.at_ (a := it) (o := liO (.ref src) (.int (i + 1 : Nat) 0)) 4 (by kernel_rfl)
      exact done h20 _ _ _ _ _ _ 0 D20.gd (Rep.kpF 2 [false, false, false] D D20 (by kernel_rfl)) bL bA bI ⟨pA, d4, n4, hs4, t4, t4', rfl, D20.at_ (a := pA + 182) (o := accO d4 [] n4) 0 (by kernel_rfl), D20.at_ (a := d4) (o := dctO hs4 t4 (n : Nat) t4') 1 (by kernel_rfl), D20.apart (a := d4) (o := dctO hs4 t4 (n : Nat) t4') (b := L) (o' := objAt (TT D20) 2) 1 2 (by kernel_rfl), D3.keep.fresh f4, D3.keep.fresh g4⟩
theorem comp_mk {L acc it src : Addr} {ns0 na en : Nat} {so : Obj} {vs : List Value} {ti : Tok} {q : Str} {f : Option Addr} {co : Value} {fr : Option Addr} {iter : PySem.Expr} {p1 p2 p3 p4 p5 : Pos}
    (hA : A.handled = none) (hd : A.depth + 40 < recursionLimit) (hu : A.units + 200 < cLine) (hsd : so.data = .seq vs.toArray ns0) {ns : List Nat} (hI : NatsAre vs ns) (hsz : vs.length ≤ 500)
    (G : Gd w h) (aL : At w h L (nsO #[] en)) (aA : At w h acc (lstX #[] na)) (aI : At w h it (liO (.ref src) (.int 0 ti))) (hs : At w h src so) (hn : src ∉ [L, acc, it]) (zZ : (∃ o, h.get? 182 = some o))
    (k : ∀ h' tk' es' en' na' v (zs : List Value), Kp [L, acc, it] h h' → Gd w h' → OneOf "first" es' → At w h' L (nsO es' en') → MadeL w h h' zs (ns) → At w h' acc (lstX zs.toArray na') → At w h' it (liO .none v) → R (.ok .next) ⟨h', g, dr, tk', os⟩) :
    codeAny (model pw w) A (.compStart (mkE p1 p2 p3 p4 p5 iter) 0 (.ref it) (.ref acc) (cEnv mkS L 3 [] q f co fr 0)) R ⟨h, g, dr, tk, os⟩ := by
  refine comp_start hA G aI fun h1 tk1 K1 G1 => ?_
  refine comp_mk_loop (src := src) (so := so) (ns0 := ns0) (vs := vs) hA hd hu hsd vs ns hI 0 h1 tk1 na en #[] #[] ti rfl (by simpa using hsz) (.inl rfl) G1 (aL.kp K1 (nin0 _)) (aA.kp K1 (nin0 _)) (aI.kp K1 (nin0 _)) (hs.kp K1 (nin0 _)) hn (by obtain ⟨o, e⟩ := zZ; exact K1.1 _ _ e) ?_
  intro h' tk' es' en' na' v zs K' G' o a b c d
  refine k h' tk' es' en' na' v zs ((K1.weak (by simp)).trans K' fun _ _ _ q => q) G' o a (b.base K1) ?_ d
  simpa using c
theorem comp_startR {acc : Value} {it : Addr} {a b : Int} {env : Env}
   {elt target iter : PySem.Expr} {ifs : List PySem.Expr} {scope : Scope} {pos : Pos}
    (hA : A.handled = none) (G : Gd w h) (aI : At w h it (riO a b))
    (k : ∀ h' tk', Kp [] h h' → Gd w h' → codeAny (model pw w) A (.compLoop (.ListComp elt [⟨target, iter, ifs, 0⟩] scope pos) 0 (.ref it) acc env) R ⟨h', g, dr, tk', os⟩) :
    codeAny (model pw w) A (.compStart (.ListComp elt [⟨target, iter, ifs, 0⟩] scope pos) 0 (.ref it) acc env) R ⟨h, g, dr, tk, os⟩ := by
  obtain ⟨Z, D⟩ : ∃ Z, Rep (KTw w) h [it] h [(it, riO a b)] Z := Rep.initC (T := [(it, riO a b)]) G (oc aI on) (by kernel_rfl)
  refine Mine.start (Q := fun _ _ => True) (E := fun _ _ => True) ?_
  cases hb : w.params.followText "comprehension-iter-twice" with
  | true =>
    refine engS _ (stR_eq hb) 1 0 hA D (by kernel_rfl) ?_
    intro χ1 h1 D1
    refine againC (c := .compStart (.ListComp elt [⟨target, iter, ifs, 0⟩] scope pos) 0 (.ref it) acc env) (c' := .compLoop (.ListComp elt [⟨target, iter, ifs, 0⟩] scope pos) 0 (.ref it) acc env) (by kernel_rfl) ?_
    exact k h1 _ (Rep.kpF 0 [true] D D1 (by kernel_rfl)) D1.gd
  | false =>
    refine engS _ (stR_eq hb) 1 0 hA D (by kernel_rfl) ?_
    intro χ1 h1 D1
    refine eng 4 16842752 (by exact hA) D1 (by kernel_rfl) ?_
    intro χ2 h2 D2
    refine eng2 "special-get-raises" 1 0 1 0 (by exact hA) D2 (by kernel_rfl) ?_
    intro χ3 h3 D3
    refine eng 5 4294967552 (by exact hA) D3 (by kernel_rfl) ?_
    intro χ4 h4 D4
    refine againC (c := .compStart (.ListComp elt [⟨target, iter, ifs, 0⟩] scope pos) 0 (.ref it) acc env) (c' := .compLoop (.ListComp elt [⟨target, iter, ifs, 0⟩] scope pos) 0 (.ref it) acc env) (by kernel_rfl) ?_
    exact k h4 _ (Rep.kpF 0 [true] D D4 (by kernel_rfl)) D4.gd
theorem gtI_spec {prog : Program} {x y : Int} {t u : Tok} (b : Bool) (hb : decide (x > y) = b) (k : ∀ tk', R (.ok (.ret (.bool b))) ⟨h, g, dr, tk', os⟩) :
    codeAny (model prog w) A (.call (.builtin "int.__gt__") ⟨[.int x t, .int y u], []⟩) R ⟨h, g, dr, tk, os⟩ := by
  subst hb
  refine hk_gives F.slot_int_gt (typeIs_int _ _ _) F.entry_int_gt (F.args_int_gt_2 _ _) (AutoIntG4.int___gt___int_int_0 _ t _ u) ?_
  exact k _
abbrev ffS : Scope := ⟨.function, [(nDot, .local), ("k", .local)], false, false, []⟩
abbrev ffE (p1 p2 p3 p4 p5 : Pos) (iter : PySem.Expr) : PySem.Expr := .ListComp (.BinOp (.Name "k" p1) .Mod (.Constant (.int 3) 0 p2) p3) [⟨.Name "k" p4, iter, [], 0⟩] ffS p5
abbrev fuS : Scope := ⟨.function, [(nDot, .local), ("k", .local), ("places", .cell)], false, false, []⟩
abbrev fuE (iter : PySem.Expr) : PySem.Expr := .ListComp (.Name "k" ⟨93, 16, 93, 17⟩) [⟨.Name "k" ⟨93, 22, 93, 23⟩, iter, [.Compare (.Call (.Attribute (.Subscript (.Name "places" ⟨93, 49, 93, 55⟩) (.Name "k" ⟨93, 56, 93, 57⟩) ⟨93, 49, 93, 58⟩) "part_count" ⟨93, 49, 93, 69⟩) [] [] ⟨93, 49, 93, 71⟩) [.Gt] [.Constant (.int 1) 0 ⟨93, 74, 93, 75⟩] ⟨93, 49, 93, 75⟩], 0⟩] ⟨.function, [(nDot, .local), ("k", .local), ("places", .free)], false, false, []⟩ ⟨93, 15, 93, 76⟩
theorem nin5 {x a b c d e : Addr} (h1 : x ≠ a) (h2 : x ≠ b) (h3 : x ≠ c) (h4 : x ≠ d) (h5 : x ≠ e) : x ∉ [a, b, c, d, e] := by
  simp only [List.mem_cons, List.not_mem_nil, or_false, not_or]
  exact ⟨h1, h2, h3, h4, h5⟩
theorem nd7x {a b c d e p q : Addr} (h : [a, b, c, d, e].Nodup) (hp : p ∉ [a, b, c, d, e]) (hq : q ∉ [a, b, c, d, e]) (hpq : p ≠ q) : [a, b, c, d, e, p, q].Nodup := by
  have : ([a, b, c, d, e] ++ [p, q]).Nodup := by
    refine List.nodup_append.mpr ⟨h, by simp [hpq], fun x hx y hy z => ?_⟩
    subst z
    rcases List.mem_cons.mp hy with rfl | hy
    · exact hp hx
    · rw [List.mem_singleton.mp hy] at hx; exact hq hx
  exact this
theorem fu_cons {rows : List (List Nat)} {zl zs : List Value} {i m : Nat} (hz : (1 < (rows.getD i []).length ∧ ∃ t, zl = [.int (i : Nat) t]) ∨ (¬ 1 < (rows.getD i []).length ∧ zl = []))
    (c : NatsAre zs ((List.range' (i + 1) m).filter (fun j => decide (1 < (rows.getD j []).length)))) : NatsAre (zl ++ zs) ((List.range' i (m + 1)).filter (fun j => decide (1 < (rows.getD j []).length))) := by
  rcases hz with ⟨hb, t, rfl⟩ | ⟨hb, rfl⟩
  · rw [List.range'_succ, List.filter_cons_of_pos (by simpa using hb)]; exact .cons _ t c
  · rw [List.range'_succ, List.filter_cons_of_neg (by simpa using hb)]; exact c
theorem comp_ff_loop {L acc it : Addr} {gl : Addr} {q : Str} {f : Option Addr} {co : Value} {fr : Option Addr} {bi : Addr} {iter : PySem.Expr} {p1 p2 p3 p4 p5 : Pos}
    (hA : A.handled = none)  :
    ∀ (m i : Nat) (h : Heap) (tk : Nat) (na en : Nat) (ys : Array Value) (es : Array DictEntry), ys.size + m ≤ 500 → OneOf "k" es →
    Gd w h → At w h L (nsO es en) → At w h acc (lstX ys na) → At w h it (riO (i : Nat) (m : Nat)) →
    (∀ h' tk' es' en' na' (zs : List Value), Kp [L, acc, it] h h' → Gd w h' → OneOf "k" es' → At w h' L (nsO es' en') → NatsAre zs ((List.range' i m).map (· % 3)) → At w h' acc (lstX (ys ++ zs.toArray) na') → R (.ok .next) ⟨h', g, dr, tk', os⟩) →
    codeAny (model pw w) A (.compLoop (ffE p1 p2 p3 p4 p5 iter) 0 (.ref it) (.ref acc) (cEnv ffS L gl [] q f co fr bi)) R ⟨h, g, dr, tk, os⟩ := by
  intro m
  induction m with
  | zero =>
    intro i h tk na en ys es hsz hes G aL aA aI  k
    obtain ⟨Z, D⟩ : ∃ Z, Rep (KTw w) h [L, acc, it] h [(L, nsO es en), (acc, lstX ys na), (it, riO (i : Nat) (0 : Nat))] Z := Rep.initC (T := [(L, nsO es en), (acc, lstX ys na), (it, riO (i : Nat) (0 : Nat))]) G (oc aL (oc aA (oc aI on))) (by kernel_rfl)
    refine Mine.start (Q := fun _ _ => True) (E := fun _ _ => True) ?_
    refine eng 2 768 (by exact hA) D (by kernel_rfl) ?_
    intro χ1 h1 D1
    refine hook (c' := .call (.builtin "range_iterator.__next__") ⟨[.ref it], []⟩) (by kernel_rfl) ?_
    refine ri_next_none (a := (i : Nat)) (b := (0 : Nat)) (ac_handled hA) D1.gd (D1.at_ 2 (by kernel_rfl)) (by simp) ?_
    intro h2 tk2 e t K2 ae he
    refine Exists.elim ((D1.plus K2 ae he).ex) ?_
    intro Z2 D2
    refine eng 1 1 (by exact hA) D2 (by kernel_rfl) ?_
    intro χ3 h3 D3
    refine fin (f := .next) (by kernel_rfl) ?_
    refine k h3 _ es en na [] D3.keep D3.gd hes (D3.at_ 1 (by kernel_rfl)) .nil ?_
    have := D3.at_ (a := acc) (o := lstX ys na) 2 (by kernel_rfl)
    simpa using this
  | succ m ih =>
    intro i h tk na en ys es hsz hes G aL aA aI  k
    have done : ∀ h6 tk6 (zl : List Value) na6 hs6 t6 v6 en6, Gd w h6 → Kp [L, acc, it] h h6 → At w h6 L (nsO #[⟨hs6, .str "k" t6, v6⟩] en6) → At w h6 acc (lstX (ys ++ zl.toArray) na6) → At w h6 it (riO (i + 1 : Nat) (m : Nat)) → zl.length ≤ 1 → (∃ t, zl = [.int ((i % 3 : Nat) : Int) t]) →
        codeAny (model pw w) A (.compLoop (ffE p1 p2 p3 p4 p5 iter) 0 (.ref it) (.ref acc) (cEnv ffS L gl [] q f co fr bi)) R ⟨h6, g, dr, tk6, os⟩ := by
      intro h6 tk6 zl na6 hs6 t6 v6 en6 G6 K6 bL bA bI hzl hz
      refine ih (i + 1) h6 tk6 na6 en6 (ys ++ zl.toArray) _ (by simp only [Array.size_append, List.size_toArray]; omega) (.inr ⟨_, _, _, rfl⟩) G6 bL bA bI  ?_
      intro h' tk' es' en' na' zs K' G' a b' c' d'
      refine k h' tk' es' en' na' (zl ++ zs) (K6.trans K' fun _ _ _ q => q) G' a b' (by obtain ⟨t, rfl⟩ := hz; exact .cons _ t c') ?_
      have e : ys ++ (zl ++ zs).toArray = ys ++ zl.toArray ++ zs.toArray := by
        apply Array.ext'; simp
      rw [e]; exact d'
    obtain ⟨Z, D⟩ : ∃ Z, Rep (KTw w) h [L, acc, it] h [(L, nsO es en), (acc, lstX ys na), (it, riO (i : Nat) (m + 1 : Nat))] Z := Rep.initC (T := [(L, nsO es en), (acc, lstX ys na), (it, riO (i : Nat) (m + 1 : Nat))]) G (oc aL (oc aA (oc aI on))) (by kernel_rfl)
    rcases hes with rfl | ⟨hs1, t1, v1, rfl⟩
    · skip
      refine Mine.start (Q := fun _ _ => True) (E := fun _ _ => True) ?_
      refine eng 2 768 (by exact hA) D (by kernel_rfl) ?_
      intro χ1 h1 D1
      refine hook (c' := .call (.builtin "range_iterator.__next__") ⟨[.ref it], []⟩) (by kernel_rfl) ?_
      refine ri_next_some (a := (i : Nat)) (b := (m + 1 : Nat)) (D1.at_ 2 (by kernel_rfl)).1 (by omega) ?_
      intro h2 tk2 t2 K2 a2
      rw [show ((i : Nat) : Int) + 1 = ((i + 1 : Nat) : Int) from by push_cast; rfl, show ((m + 1 : Nat) : Int) - 1 = (m : Nat) from by push_cast; omega] at a2
      refine Exists.elim ((D1.turn (j := 2) (x := (it, riO (i : Nat) (m + 1 : Nat))) (by kernel_rfl) K2 a2).ex) ?_
      intro Z2 D2
      refine eng 11 18446745177516146688 (by exact hA) D2 (by kernel_rfl) ?_
      intro χ3 h3 D3
      refine hook2 (fun u v => .call (.builtin "int.__mod__") ⟨[.int (i : Nat) u, .int 3 v], []⟩) (by kernel_rfl) ?_
      intro x3 y3
      refine mod_spec i 3 rfl rfl (by decide) (by decide) ?_
      intro tk4 v4
      refine hook (c' := .call (.builtin "list.append") ⟨[.ref acc, .int ((i % 3 : Nat) : Int) v4], []⟩) (by kernel_rfl) ?_
      refine append_lst (n := na) (xs := ys) (v := .int ((i % 3 : Nat) : Int) v4) (ac_handled hA) (D3.one 1 (by kernel_rfl)) (by omega) ?_
      intro h20 tk20 K20 a20
      refine Exists.elim ((D3.turn (j := 1) (x := (acc, lstX ys na)) (by kernel_rfl) K20 a20.1).ex) ?_
      intro Z20 D20
      refine againC (c' := .compLoop (ffE p1 p2 p3 p4 p5 iter) 0 (.ref it) (.ref acc) (cEnv ffS L gl [] q f co fr bi)) (c := .compLoop (ffE p1 p2 p3 p4 p5 iter) 0 (.ref it) (.ref acc) (cEnv ffS L gl [] q f co fr bi)) (by kernel_rfl) ?_
      have bL := D20.at_ (a := L) (o := nsO #[⟨eHi (objAt (TT D20) 0) 0, .str "k" (eKi (objAt (TT D20) 0) 0), .int (i : Nat) t2⟩] (en + 1)) 0 (by kernel_rfl)
      have bA := D20.at_ (a := acc) (o := lstX (ys.push (.int ((i % 3 : Nat) : Int) v4)) (na + 1)) 1 (by kernel_rfl)
      have bI := D20.at_ (a := it) (o := riO (i + 1 : Nat) (m : Nat)) 2 (by kernel_rfl)
      rw [show ys.push (.int ((i % 3 : Nat) : Int) v4) = ys ++ ([.int ((i % 3 : Nat) : Int) v4] : List Value).toArray from by simp] at bA
      exact done _ _ [.int ((i % 3 : Nat) : Int) v4] _ _ _ _ _ D20.gd (Rep.kpF 0 [false, false, false] D D20 (by kernel_rfl)) bL bA bI (by simp) ⟨v4, rfl⟩
    · skip
      refine Mine.start (Q := fun _ _ => True) (E := fun _ _ => True) ?_
      refine eng 2 768 (by exact hA) D (by kernel_rfl) ?_
      intro χ1 h1 D1
      refine hook (c' := .call (.builtin "range_iterator.__next__") ⟨[.ref it], []⟩) (by kernel_rfl) ?_
      refine ri_next_some (a := (i : Nat)) (b := (m + 1 : Nat)) (D1.at_ 2 (by kernel_rfl)).1 (by omega) ?_
      intro h2 tk2 t2 K2 a2
      rw [show ((i : Nat) : Int) + 1 = ((i + 1 : Nat) : Int) from by push_cast; rfl, show ((m + 1 : Nat) : Int) - 1 = (m : Nat) from by push_cast; omega] at a2
      refine Exists.elim ((D1.turn (j := 2) (x := (it, riO (i : Nat) (m + 1 : Nat))) (by kernel_rfl) K2 a2).ex) ?_
      intro Z2 D2
      refine eng 11 18446745177516146688 (by exact hA) D2 (by kernel_rfl) ?_
      intro χ3 h3 D3
      refine hook2 (fun u v => .call (.builtin "int.__mod__") ⟨[.int (i : Nat) u, .int 3 v], []⟩) (by kernel_rfl) ?_
      intro x3 y3
      refine mod_spec i 3 rfl rfl (by decide) (by decide) ?_
      intro tk4 v4
      refine hook (c' := .call (.builtin "list.append") ⟨[.ref acc, .int ((i % 3 : Nat) : Int) v4], []⟩) (by kernel_rfl) ?_
      refine append_lst (n := na) (xs := ys) (v := .int ((i % 3 : Nat) : Int) v4) (ac_handled hA) (D3.one 1 (by kernel_rfl)) (by omega) ?_
      intro h20 tk20 K20 a20
      refine Exists.elim ((D3.turn (j := 1) (x := (acc, lstX ys na)) (by kernel_rfl) K20 a20.1).ex) ?_
      intro Z20 D20
      refine againC (c' := .compLoop (ffE p1 p2 p3 p4 p5 iter) 0 (.ref it) (.ref acc) (cEnv ffS L gl [] q f co fr bi)) (c := .compLoop (ffE p1 p2 p3 p4 p5 iter) 0 (.ref it) (.ref acc) (cEnv ffS L gl [] q f co fr bi)) (by kernel_rfl) ?_
      have bL := D20.at_ (a := L) (o := nsO #[⟨eHi (objAt (TT D20) 0) 0, .str "k" (eKi (objAt (TT D20) 0) 0), .int (i : Nat) t2⟩] (en)) 0 (by kernel_rfl)
      have bA := D20.at_ (a := acc) (o := lstX (ys.push (.int ((i % 3 : Nat) : Int) v4)) (na + 1)) 1 (by kernel_rfl)
      have bI := D20.at_ (a := it) (o := riO (i + 1 : Nat) (m : Nat)) 2 (by kernel_rfl)
      rw [show ys.push (.int ((i % 3 : Nat) : Int) v4) = ys ++ ([.int ((i % 3 : Nat) : Int) v4] : List Value).toArray from by simp] at bA
      exact done _ _ [.int ((i % 3 : Nat) : Int) v4] _ _ _ _ _ D20.gd (Rep.kpF 0 [false, false, false] D D20 (by kernel_rfl)) bL bA bI (by simp) ⟨v4, rfl⟩
theorem comp_ff {L acc it : Addr} {na en : Nat} {gl : Addr} {q : Str} {f : Option Addr} {co : Value} {fr : Option Addr} {bi : Addr} {iter : PySem.Expr} {p1 p2 p3 p4 p5 : Pos}
    (hA : A.handled = none)  (m : Nat) (hsz : m ≤ 500)
    (G : Gd w h) (aL : At w h L (nsO #[] en)) (aA : At w h acc (lstX #[] na)) (aI : At w h it (riO 0 (m : Nat)))
    (k : ∀ h' tk' es' en' na' (zs : List Value), Kp [L, acc, it] h h' → Gd w h' → OneOf "k" es' → At w h' L (nsO es' en') → NatsAre zs ((List.range' 0 m).map (· % 3)) → At w h' acc (lstX zs.toArray na') → R (.ok .next) ⟨h', g, dr, tk', os⟩) :
    codeAny (model pw w) A (.compStart (ffE p1 p2 p3 p4 p5 iter) 0 (.ref it) (.ref acc) (cEnv ffS L gl [] q f co fr bi)) R ⟨h, g, dr, tk, os⟩ := by
  refine comp_startR hA G aI fun h1 tk1 K1 G1 => ?_
  refine comp_ff_loop hA  m 0 h1 tk1 na en #[] #[] (by simpa using hsz) (.inl rfl) G1 (aL.kp K1 (nin0 _)) (aA.kp K1 (nin0 _)) (aI.kp K1 (nin0 _))  ?_
  intro h' tk' es' en' na' zs K' G' o a b c
  refine k h' tk' es' en' na' zs ((K1.weak (by simp)).trans K' fun _ _ _ q => q) G' o a b ?_
  simpa using c
theorem comp_fu_loop {L acc it : Addr} {C P : Addr} {ps : List Addr} {nP : Nat} {rows : List (List Nat)} {gl : Addr} {q : Str} {f : Option Addr} {co : Value} {fr : Option Addr} {bi : Addr} {iter : PySem.Expr}
    (hA : A.handled = none) (hd : A.depth + 40 < recursionLimit) (hps : ps.length ≤ 100) (N : Nat) (hN : ps.length = N) :
    ∀ (m i : Nat) (h : Heap) (tk : Nat) (na en : Nat) (ys : Array Value) (es : Array DictEntry), ys.size + m ≤ 500 → OneOf "k" es →
    Gd w h → At w h L (nsO es en) → At w h acc (lstX ys na) → At w h it (riO (i : Nat) (m : Nat)) → At w h C (cellO (.ref P)) → At w h P (lstO (ps.map .ref) nP) → P ≠ acc → (∀ j p, ps[j]? = some p → ∃ p0 d qs n s t1 fi t2, p = p0 + 182 ∧ At w h p (accO d qs n) ∧ At w h d (dctO s t1 fi t2) ∧ d ≠ L ∧ qs.length = (rows.getD j []).length) → i + m = N →
    (∀ h' tk' es' en' na' (zs : List Value), Kp [L, acc, it] h h' → Gd w h' → OneOf "k" es' → At w h' L (nsO es' en') → NatsAre zs ((List.range' i m).filter (fun j => decide (1 < (rows.getD j []).length))) → At w h' acc (lstX (ys ++ zs.toArray) na') → R (.ok .next) ⟨h', g, dr, tk', os⟩) →
    codeAny (model pw w) A (.compLoop (fuE iter) 0 (.ref it) (.ref acc) (cEnv fuS L gl [("places", C)] q f co fr bi)) R ⟨h, g, dr, tk, os⟩ := by
  intro m
  induction m with
  | zero =>
    intro i h tk na en ys es hsz hes G aL aA aI aC aP nPa xx him k
    obtain ⟨Z, D⟩ : ∃ Z, Rep (KTw w) h [L, acc, it] h [(L, nsO es en), (acc, lstX ys na), (it, riO (i : Nat) (0 : Nat))] Z := Rep.initC (T := [(L, nsO es en), (acc, lstX ys na), (it, riO (i : Nat) (0 : Nat))]) G (oc aL (oc aA (oc aI on))) (by kernel_rfl)
    refine Mine.start (Q := fun _ _ => True) (E := fun _ _ => True) ?_
    refine eng 2 768 (by exact hA) D (by kernel_rfl) ?_
    intro χ1 h1 D1
    refine hook (c' := .call (.builtin "range_iterator.__next__") ⟨[.ref it], []⟩) (by kernel_rfl) ?_
    refine ri_next_none (a := (i : Nat)) (b := (0 : Nat)) (ac_handled hA) D1.gd (D1.at_ 2 (by kernel_rfl)) (by simp) ?_
    intro h2 tk2 e t K2 ae he
    refine Exists.elim ((D1.plus K2 ae he).ex) ?_
    intro Z2 D2
    refine eng 1 1 (by exact hA) D2 (by kernel_rfl) ?_
    intro χ3 h3 D3
    refine fin (f := .next) (by kernel_rfl) ?_
    refine k h3 _ es en na [] D3.keep D3.gd hes (D3.at_ 1 (by kernel_rfl)) .nil ?_
    have := D3.at_ (a := acc) (o := lstX ys na) 2 (by kernel_rfl)
    simpa using this
  | succ m ih =>
    intro i h tk na en ys es hsz hes G aL aA aI aC aP nPa xx him k
    have nd : [L, acc, it, C, P].Nodup := nd5x (ne_of_cls aL.1 aA.1 (by kernel_rfl)) (ne_of_cls aL.1 aI.1 (by kernel_rfl)) (ne_of_cls aL.1 aC.1 (by kernel_rfl)) (ne_of_cls aL.1 aP.1 (by kernel_rfl)) (ne_of_cls aA.1 aI.1 (by kernel_rfl)) (ne_of_cls aA.1 aC.1 (by kernel_rfl)) (Ne.symm nPa) (ne_of_cls aI.1 aC.1 (by kernel_rfl)) (ne_of_cls aI.1 aP.1 (by kernel_rfl)) (ne_of_cls aC.1 aP.1 (by kernel_rfl))
    obtain ⟨pp, ep⟩ : ∃ p, ps[i]? = some p := ⟨_, List.getElem?_eq_getElem (by omega)⟩
    obtain ⟨p0, d0, qs0, n0, s0, t0, fi0, t0', rfl, ap, ad, ndL, lq⟩ := xx i pp ep
    have nd7 := nd7x nd (nin5 (ne_of_cls ap.1 aL.1 (by kernel_rfl)) (ne_of_cls ap.1 aA.1 (by kernel_rfl)) (ne_of_cls ap.1 aI.1 (by kernel_rfl)) (ne_of_cls ap.1 aC.1 (by kernel_rfl)) (ne_of_cls ap.1 aP.1 (by kernel_rfl))) (nin5 ndL (ne_of_cls ad.1 aA.1 (by kernel_rfl)) (ne_of_cls ad.1 aI.1 (by kernel_rfl)) (ne_of_cls ad.1 aC.1 (by kernel_rfl)) (ne_of_cls ad.1 aP.1 (by kernel_rfl))) (ne_of_cls ap.1 ad.1 (by kernel_rfl))
    have done : ∀ h6 tk6 (zl : List Value) na6 hs6 t6 v6 en6, Gd w h6 → Kp [L, acc, it] h h6 → At w h6 L (nsO #[⟨hs6, .str "k" t6, v6⟩] en6) → At w h6 acc (lstX (ys ++ zl.toArray) na6) → At w h6 it (riO (i + 1 : Nat) (m : Nat)) → zl.length ≤ 1 → ((1 < (rows.getD i []).length ∧ ∃ t, zl = [.int (i : Nat) t]) ∨ (¬ 1 < (rows.getD i []).length ∧ zl = [])) →
        codeAny (model pw w) A (.compLoop (fuE iter) 0 (.ref it) (.ref acc) (cEnv fuS L gl [("places", C)] q f co fr bi)) R ⟨h6, g, dr, tk6, os⟩ := by
      intro h6 tk6 zl na6 hs6 t6 v6 en6 G6 K6 bL bA bI hzl hz
      refine ih (i + 1) h6 tk6 na6 en6 (ys ++ zl.toArray) _ (by simp only [Array.size_append, List.size_toArray]; omega) (.inr ⟨_, _, _, rfl⟩) G6 bL bA bI (aC.kp K6 (nin3 (ne_of_cls aC.1 aL.1 (by kernel_rfl)) (ne_of_cls aC.1 aA.1 (by kernel_rfl)) (ne_of_cls aC.1 aI.1 (by kernel_rfl)))) (aP.kp K6 (nin3 (ne_of_cls aP.1 aL.1 (by kernel_rfl)) nPa (ne_of_cls aP.1 aI.1 (by kernel_rfl)))) nPa (fun j p e => by obtain ⟨p0, d, qs, n, s, t1, fi, t2, e1, a1, a2, nL, l1⟩ := xx j p e; exact ⟨p0, d, qs, n, s, t1, fi, t2, e1, a1.kp K6 (nin3 (ne_of_cls a1.1 aL.1 (by kernel_rfl)) (ne_of_cls a1.1 aA.1 (by kernel_rfl)) (ne_of_cls a1.1 aI.1 (by kernel_rfl))), a2.kp K6 (nin3 nL (ne_of_cls a2.1 aA.1 (by kernel_rfl)) (ne_of_cls a2.1 aI.1 (by kernel_rfl))), nL, l1⟩) (by omega) ?_
      intro h' tk' es' en' na' zs K' G' a b' c' d'
      refine k h' tk' es' en' na' (zl ++ zs) (K6.trans K' fun _ _ _ q => q) G' a b' (fu_cons hz c') ?_
      have e : ys ++ (zl ++ zs).toArray = ys ++ zl.toArray ++ zs.toArray := by
        apply Array.ext'; simp
      rw [e]; exact d'
    obtain ⟨Z, D⟩ : ∃ Z, Rep (KTw w) h [L, acc, it, C, P, p0 + 182, d0] h [(L, nsO es en), (acc, lstX ys na), (it, riO (i : Nat) (m + 1 : Nat)), (C, cellO (.ref P)), (P, lstO (ps.map .ref) nP), (p0 + 182, accO d0 qs0 n0), (d0, dctO s0 t0 fi0 t0')] Z := ⟨_, Rep.init (T := [(L, nsO es en), (acc, lstX ys na), (it, riO (i : Nat) (m + 1 : Nat)), (C, cellO (.ref P)), (P, lstO (ps.map .ref) nP), (p0 + 182, accO d0 qs0 n0), (d0, dctO s0 t0 fi0 t0')]) G (oc aL (oc aA (oc aI (oc aC (oc aP (oc ap (oc ad on))))))) nd7⟩
    rcases hes with rfl | ⟨hs1, t1, v1, rfl⟩
    · skip
      refine Mine.start (Q := fun _ _ => True) (E := fun _ _ => True) ?_
      refine eng 2 768 (by exact hA) D (by kernel_rfl) ?_
      intro χ1 h1 D1
      refine hook (c' := .call (.builtin "range_iterator.__next__") ⟨[.ref it], []⟩) (by kernel_rfl) ?_
      refine ri_next_some (a := (i : Nat)) (b := (m + 1 : Nat)) (D1.at_ 2 (by kernel_rfl)).1 (by omega) ?_
      intro h2 tk2 t2 K2 a2
      rw [show ((i : Nat) : Int) + 1 = ((i + 1 : Nat) : Int) from by push_cast; rfl, show ((m + 1 : Nat) : Int) - 1 = (m : Nat) from by push_cast; omega] at a2
      refine Exists.elim ((D1.turn (j := 2) (x := (it, riO (i : Nat) (m + 1 : Nat))) (by kernel_rfl) K2 a2).ex) ?_
      intro Z2 D2
      refine eng 15 26063292482713967423052213441789952 (by exact hA) D2 (by kernel_rfl) ?_
      intro χ3 h3 D3
      refine hook2 (fun u v => .call (.builtin "list.__getitem__") ⟨[.ref P, .int (i : Nat) v], []⟩) (by kernel_rfl) ?_
      intro x3 y3
      refine getitem_spec (v := .ref (p0 + 182)) (vs := ps.map Value.ref) (n := nP) (D3.at_ (a := P) (o := lstO (ps.map .ref) nP) 4 (by kernel_rfl)).1 (get_map ep) (by simp; omega) ?_
      refine eng 19 9335749751645648410296736214878782976 (by exact hA) D3 (by kernel_rfl) ?_
      intro χ4 h4 D4
      refine hook (c' := .call (.ref 98) ⟨[.ref (p0 + 182)], []⟩) (by kernel_rfl) ?_
      have K4 : Kp [L, acc, it] h h4 := Rep.kpF 0 [false, false, false, true, true, true, true] D D4 (by kernel_rfl)
      refine pc_spec (d := d0) (qs := qs0) (n := n0) (ac_handled hA) (depL (b := A.depth) 0 (by kernel_rfl) hd rfl) D4.gd (ap.kp K4 (nin3 (ne_of_cls ap.1 aL.1 (by kernel_rfl)) (ne_of_cls ap.1 aA.1 (by kernel_rfl)) (ne_of_cls ap.1 aI.1 (by kernel_rfl)))) ?_
      intro h5 tk5 t5 K5
      refine Exists.elim ((D4.same K5).ex) ?_
      intro Z5 D5
      refine eng 3 0 (by exact hA) D5 (by kernel_rfl) ?_
      intro χ6 h6 D6
      refine eng2 "special-get-raises" 1 0 1 0 (by exact hA) D6 (by kernel_rfl) ?_
      intro χ7 h7 D7
      refine hook2 (fun u v => .call (.builtin "int.__gt__") ⟨[.int (qs0.length : Nat) u, .int 1 v], []⟩) (by kernel_rfl) ?_
      intro x6 y6
      by_cases hb : 1 < (rows.getD i []).length
      · skip
        refine gtI_spec true (by rw [decide_eq_true_eq]; omega) ?_
        intro tk7
        refine eng 2 256 (by exact hA) D7 (by kernel_rfl) ?_
        intro χ7 h7 D7
        refine hook (c' := .call (.builtin "list.append") ⟨[.ref acc, .int (i : Nat) t2], []⟩) (by kernel_rfl) ?_
        refine append_lst (n := na) (xs := ys) (v := .int (i : Nat) t2) (ac_handled hA) (D7.one 1 (by kernel_rfl)) (by omega) ?_
        intro h20 tk20 K20 a20
        refine Exists.elim ((D7.turn (j := 1) (x := (acc, lstX ys na)) (by kernel_rfl) K20 a20.1).ex) ?_
        intro Z20 D20
        refine againC (c' := .compLoop (fuE iter) 0 (.ref it) (.ref acc) (cEnv fuS L gl [("places", C)] q f co fr bi)) (c := .compLoop (fuE iter) 0 (.ref it) (.ref acc) (cEnv fuS L gl [("places", C)] q f co fr bi)) (by kernel_rfl) ?_
        have bL := D20.at_ (a := L) (o := nsO #[⟨eHi (objAt (TT D20) 0) 0, .str "k" (eKi (objAt (TT D20) 0) 0), .int (i : Nat) t2⟩] (en + 1)) 0 (by kernel_rfl)
        have bA := D20.at_ (a := acc) (o := lstX (ys.push (.int (i : Nat) t2)) (na + 1)) 1 (by kernel_rfl)
        have bI := D20.at_ (a := it) (o := riO (i + 1 : Nat) (m : Nat)) 2 (by kernel_rfl)
        rw [show ys.push (.int (i : Nat) t2) = ys ++ ([.int (i : Nat) t2] : List Value).toArray from by simp] at bA
        exact done _ _ [.int (i : Nat) t2] _ _ _ _ _ D20.gd (Rep.kpF 0 [false, false, false, true, true, true, true] D D20 (by kernel_rfl)) bL bA bI (by simp) (.inl ⟨hb, t2, rfl⟩)
      · skip
        refine gtI_spec false (by rw [decide_eq_false_iff_not]; omega) ?_
        intro tk7
        refine againC (c' := .compLoop (fuE iter) 0 (.ref it) (.ref acc) (cEnv fuS L gl [("places", C)] q f co fr bi)) (c := .compLoop (fuE iter) 0 (.ref it) (.ref acc) (cEnv fuS L gl [("places", C)] q f co fr bi)) (by kernel_rfl) ?_
        have bL := D7.at_ (a := L) (o := nsO #[⟨eHi (objAt χ7.T 0) 0, .str "k" (eKi (objAt χ7.T 0) 0), .int (i : Nat) t2⟩] (en + 1)) 0 (by kernel_rfl)
        have bA := D7.at_ (a := acc) (o := lstX (ys) (na)) 1 (by kernel_rfl)
        have bI := D7.at_ (a := it) (o := riO (i + 1 : Nat) (m : Nat)) 2 (by kernel_rfl)
        rw [show ys = ys ++ ([] : List Value).toArray from by simp] at bA
        exact done _ _ [] _ _ _ _ _ D7.gd (Rep.kpF 0 [false, false, false, true, true, true, true] D D7 (by kernel_rfl)) bL bA bI (by simp) (.inr ⟨hb, rfl⟩)
    · skip
      refine Mine.start (Q := fun _ _ => True) (E := fun _ _ => True) ?_
      refine eng 2 768 (by exact hA) D (by kernel_rfl) ?_
      intro χ1 h1 D1
      refine hook (c' := .call (.builtin "range_iterator.__next__") ⟨[.ref it], []⟩) (by kernel_rfl) ?_
      refine ri_next_some (a := (i : Nat)) (b := (m + 1 : Nat)) (D1.at_ 2 (by kernel_rfl)).1 (by omega) ?_
      intro h2 tk2 t2 K2 a2
      rw [show ((i : Nat) : Int) + 1 = ((i + 1 : Nat) : Int) from by push_cast; rfl, show ((m + 1 : Nat) : Int) - 1 = (m : Nat) from by push_cast; omega] at a2
      refine Exists.elim ((D1.turn (j := 2) (x := (it, riO (i : Nat) (m + 1 : Nat))) (by kernel_rfl) K2 a2).ex) ?_
      intro Z2 D2
      refine eng 15 26063292482713967423052213441789952 (by exact hA) D2 (by kernel_rfl) ?_
      intro χ3 h3 D3
      refine hook2 (fun u v => .call (.builtin "list.__getitem__") ⟨[.ref P, .int (i : Nat) v], []⟩) (by kernel_rfl) ?_
      intro x3 y3
      refine getitem_spec (v := .ref (p0 + 182)) (vs := ps.map Value.ref) (n := nP) (D3.at_ (a := P) (o := lstO (ps.map .ref) nP) 4 (by kernel_rfl)).1 (get_map ep) (by simp; omega) ?_
      refine eng 19 9335749751645648410296736214878782976 (by exact hA) D3 (by kernel_rfl) ?_
      intro χ4 h4 D4
      refine hook (c' := .call (.ref 98) ⟨[.ref (p0 + 182)], []⟩) (by kernel_rfl) ?_
      have K4 : Kp [L, acc, it] h h4 := Rep.kpF 0 [false, false, false, true, true, true, true] D D4 (by kernel_rfl)
      refine pc_spec (d := d0) (qs := qs0) (n := n0) (ac_handled hA) (depL (b := A.depth) 0 (by kernel_rfl) hd rfl) D4.gd (ap.kp K4 (nin3 (ne_of_cls ap.1 aL.1 (by kernel_rfl)) (ne_of_cls ap.1 aA.1 (by kernel_rfl)) (ne_of_cls ap.1 aI.1 (by kernel_rfl)))) ?_
      intro h5 tk5 t5 K5
      refine Exists.elim ((D4.same K5).ex) ?_
      intro Z5 D5
      refine eng 3 0 (by exact hA) D5 (by kernel_rfl) ?_
      intro χ6 h6 D6
      refine eng2 "special-get-raises" 1 0 1 0 (by exact hA) D6 (by kernel_rfl) ?_
      intro χ7 h7 D7
      refine hook2 (fun u v => .call (.builtin "int.__gt__") ⟨[.int (qs0.length : Nat) u, .int 1 v], []⟩) (by kernel_rfl) ?_
      intro x6 y6
      by_cases hb : 1 < (rows.getD i []).length
      · skip
        refine gtI_spec true (by rw [decide_eq_true_eq]; omega) ?_
        intro tk7
        refine eng 2 256 (by exact hA) D7 (by kernel_rfl) ?_
        intro χ7 h7 D7
        refine hook (c' := .call (.builtin "list.append") ⟨[.ref acc, .int (i : Nat) t2], []⟩) (by kernel_rfl) ?_
        refine append_lst (n := na) (xs := ys) (v := .int (i : Nat) t2) (ac_handled hA) (D7.one 1 (by kernel_rfl)) (by omega) ?_
        intro h20 tk20 K20 a20
        refine Exists.elim ((D7.turn (j := 1) (x := (acc, lstX ys na)) (by kernel_rfl) K20 a20.1).ex) ?_
        intro Z20 D20
        refine againC (c' := .compLoop (fuE iter) 0 (.ref it) (.ref acc) (cEnv fuS L gl [("places", C)] q f co fr bi)) (c := .compLoop (fuE iter) 0 (.ref it) (.ref acc) (cEnv fuS L gl [("places", C)] q f co fr bi)) (by kernel_rfl) ?_
        have bL := D20.at_ (a := L) (o := nsO #[⟨eHi (objAt (TT D20) 0) 0, .str "k" (eKi (objAt (TT D20) 0) 0), .int (i : Nat) t2⟩] (en)) 0 (by kernel_rfl)
        have bA := D20.at_ (a := acc) (o := lstX (ys.push (.int (i : Nat) t2)) (na + 1)) 1 (by kernel_rfl)
        have bI := D20.at_ (a := it) (o := riO (i + 1 : Nat) (m : Nat)) 2 (by kernel_rfl)
        rw [show ys.push (.int (i : Nat) t2) = ys ++ ([.int (i : Nat) t2] : List Value).toArray from by simp] at bA
        exact done _ _ [.int (i : Nat) t2] _ _ _ _ _ D20.gd (Rep.kpF 0 [false, false, false, true, true, true, true] D D20 (by kernel_rfl)) bL bA bI (by simp) (.inl ⟨hb, t2, rfl⟩)
      · skip
        refine gtI_spec false (by rw [decide_eq_false_iff_not]; omega) ?_
        intro tk7
        refine againC (c' := .compLoop (fuE iter) 0 (.ref it) (.ref acc) (cEnv fuS L gl [("places", C)] q f co fr bi)) (c := .compLoop (fuE iter) 0 (.ref it) (.ref acc) (cEnv fuS L gl [("places", C)] q f co fr bi)) (by kernel_rfl) ?_
        have bL := D7.at_ (a := L) (o := nsO #[⟨eHi (objAt χ7.T 0) 0, .str "k" (eKi (objAt χ7.T 0) 0), .int (i : Nat) t2⟩] (en)) 0 (by kernel_rfl)
        have bA := D7.at_ (a := acc) (o := lstX (ys) (na)) 1 (by kernel_rfl)
        have bI := D7.at_ (a := it) (o := riO (i + 1 : Nat) (m : Nat)) 2 (by kernel_rfl)
        rw [show ys = ys ++ ([] : List Value).toArray from by simp] at bA
        exact done _ _ [] _ _ _ _ _ D7.gd (Rep.kpF 0 [false, false, false, true, true, true, true] D D7 (by kernel_rfl)) bL bA bI (by simp) (.inr ⟨hb, rfl⟩)
theorem comp_fu {L acc it : Addr} {na en : Nat} {C P : Addr} {ps : List Addr} {nP : Nat} {rows : List (List Nat)} {gl : Addr} {q : Str} {f : Option Addr} {co : Value} {fr : Option Addr} {bi : Addr} {iter : PySem.Expr}
    (hA : A.handled = none) (hd : A.depth + 40 < recursionLimit) (hps : ps.length ≤ 100) (N : Nat) (hN : ps.length = N) (m : Nat) (hsz : m ≤ 500) (hm : 0 + m = N)
    (G : Gd w h) (aL : At w h L (nsO #[] en)) (aA : At w h acc (lstX #[] na)) (aI : At w h it (riO 0 (m : Nat))) (aC : At w h C (cellO (.ref P))) (aP : At w h P (lstO (ps.map .ref) nP)) (nPa : P ≠ acc) (xx : (∀ j p, ps[j]? = some p → ∃ p0 d qs n s t1 fi t2, p = p0 + 182 ∧ At w h p (accO d qs n) ∧ At w h d (dctO s t1 fi t2) ∧ d ≠ L ∧ qs.length = (rows.getD j []).length))
    (k : ∀ h' tk' es' en' na' (zs : List Value), Kp [L, acc, it] h h' → Gd w h' → OneOf "k" es' → At w h' L (nsO es' en') → NatsAre zs ((List.range' 0 m).filter (fun j => decide (1 < (rows.getD j []).length))) → At w h' acc (lstX zs.toArray na') → R (.ok .next) ⟨h', g, dr, tk', os⟩) :
    codeAny (model pw w) A (.compStart (fuE iter) 0 (.ref it) (.ref acc) (cEnv fuS L gl [("places", C)] q f co fr bi)) R ⟨h, g, dr, tk, os⟩ := by
  refine comp_startR hA G aI fun h1 tk1 K1 G1 => ?_
  refine comp_fu_loop hA hd hps N hN m 0 h1 tk1 na en #[] #[] (by simpa using hsz) (.inl rfl) G1 (aL.kp K1 (nin0 _)) (aA.kp K1 (nin0 _)) (aI.kp K1 (nin0 _)) (aC.kp K1 (nin0 _)) (aP.kp K1 (nin0 _)) nPa (fun j p e => by obtain ⟨p0, d, qs, n, s, t1, fi, t2, e1, a1, a2, nL, l1⟩ := xx j p e; exact ⟨p0, d, qs, n, s, t1, fi, t2, e1, a1.kp K1 (nin0 _), a2.kp K1 (nin0 _), nL, l1⟩) hm ?_
  intro h' tk' es' en' na' zs K' G' o a b c
  refine k h' tk' es' en' na' zs ((K1.weak (by simp)).trans K' fun _ _ _ q => q) G' o a b ?_
  simpa using c
def lcI : PySem.Expr → PySem.Expr
  | .ListComp _ (g :: _) _ _ => g.iter
  | _ => noE
abbrev cell0 : Obj := { cls := .type "cell", data := .cell none }
abbrev run1 (half ld : Nat) (u1 u2 : Tok) (Pi Dr fl : Addr) : List (Str × Value) := [("half", .int half u1), ("pieces", .ref Pi), ("draws", .ref Dr), ("leader", .int ld u2), ("firsts", .ref fl)]
theorem run_a {Pi Dr Tb : Addr} {ld half : Nat} {u1 u2 : Tok}
    (hA : A.handled = none) (hd : A.depth + 40 < recursionLimit) (G : Gd w h) (hh : half = 2 ∨ half = 3 ∨ half = 4)
    (k : ∀ h' tk' F H K en fl nf vs, Kp [] h h' → Gd w h' → At w h' F (frL H K (run1 half ld u1 u2 Pi Dr fl) en) → At w h' (F + 1) (cellO (.ref Tb)) → At w h' (F + 2) cell0 → At w h' fl (lstX vs.toArray nf) → NatsAre vs ((List.range' 0 (2 * half + 1)).map (· % 3)) → h.get? F = none → h.get? (F + 1) = none → h.get? (F + 2) = none → h.get? fl = none →
      wpAny (model pw w) (A.deeper (E176 w F)) (execs ((B176 w).drop 1) (E176 w F)) (fun f s' => R (.ok (.ret (valOf f))) s') (fun _ _ => False) ⟨h', g, dr, tk', os⟩) :
    codeAny (model pw w) A (.call (.ref 176) ⟨[.int half u1, .ref Pi, .ref Dr, .int ld u2, .ref Tb], []⟩) R ⟨h, g, dr, tk, os⟩ := by
  obtain ⟨Z, D⟩ : ∃ Z, Rep (KTw w) h [] h [] Z := Rep.initC (T := []) G on (by kernel_rfl)
  refine Mine.start (Q := fun _ _ => True) (E := fun _ _ => True) ?_
  rcases hh with rfl | rfl | rfl
  · skip
    refine eng 23 192314633078434859603971837565149803750103298319843328 (by exact hA) D (by kernel_rfl) ?_
    intro χ1 h1 D1
    refine enterB 176 2 D1 (by kernel_rfl) (by omega) ?_
    refine body ?_
    refine atCut 1 ?_
    refine top_execs (R := R) ?_
    intro θ
    refine eng 8 844424930131968 (by exact hA) D1 (by kernel_rfl) ?_
    intro χ2 h2 D2
    refine hook2 (fun u v => .call (.builtin "int.__mul__") ⟨[.int 2 u, .int (2 : Nat) v], []⟩) (by kernel_rfl) ?_
    intro x2 y2
    refine mul_spec (by omega) (by omega) ?_
    intro tk2 v2
    refine eng 28 105723667807887862358585004913848968293876208700482628648840462336 (by exact hA) D2 (by kernel_rfl) ?_
    intro χ3 h3 D3
    refine eng2 "special-get-raises" 1 0 1 0 (by exact hA) D3 (by kernel_rfl) ?_
    intro χ4 h4 D4
    refine eng 12 18446745177532924160 (by exact hA) D4 (by kernel_rfl) ?_
    intro χ5 h5 D5
    refine hook (c' := .compStart (ffE ⟨86, 14, 86, 15⟩ ⟨86, 18, 86, 19⟩ ⟨86, 14, 86, 19⟩ ⟨86, 24, 86, 25⟩ ⟨86, 13, 86, 49⟩ (lcI (asV (B176 w)))) 0 (.ref (adrAt χ5.T 2)) (.ref (adrAt χ5.T 1)) (cEnvAt ffS (adrAt χ5.T 0) [] (fdOf (slook (KTw w) 176)) (adrAt χ1.T 2))) (by kernel_rfl) ?_
    have t0 := D5.at_ (a := adrAt χ5.T 0) (o := nsO #[] 0) 0 (by kernel_rfl)
    have t1 := D5.at_ (a := adrAt χ5.T 1) (o := lstX #[] 0) 1 (by kernel_rfl)
    have t2 := D5.at_ (a := adrAt χ5.T 2) (o := riO 0 (5 : Nat)) 2 (by kernel_rfl)
    refine comp_ff (ac_handled hA) 5 (by omega) D5.gd t0 t1 t2 ?_
    intro h6 tk6 es6 en6 na6 zs K6 G6 o6 c0 hz c1
    obtain ⟨oi, hoi⟩ := K6.1 _ _ t2.1
    refine Exists.elim (D5.turnL [(0, nsO es6 en6), (1, lstX zs.toArray na6), (2, oi)] K6 (by kernel_rfl) (by kernel_rfl) (all3 c0.1 c1.1 hoi)) ?_
    intro Z6 D6
    have fin : ∀ h7 Z7 T7 tk7 H7 K7 en7 (D7 : Rep (KTw w) h [] h7 T7 Z7) (e1 : nth T7 6 = some (adrAt χ1.T 2, frL H7 K7 (run1 2 ld u1 u2 Pi Dr (adrAt χ5.T 1)) en7)) (e2 : nth T7 5 = some (adrAt χ1.T 2 + 1, cellO (.ref Tb))) (e3 : nth T7 4 = some (adrAt χ1.T 2 + 2, cell0)) (e4 : nth T7 1 = some (adrAt χ5.T 1, lstX zs.toArray na6)),
        wpAny (model pw w) (A.deeper (E176 w (adrAt χ1.T 2))) (execs ((B176 w).drop 1) (E176 w (adrAt χ1.T 2))) (fun f s' => R (.ok (.ret (valOf f))) s') (fun _ _ => False) ⟨h7, g, dr, tk7, os⟩ := by
      intro h7 Z7 T7 tk7 H7 K7 en7 D7 e1 e2 e3 e4
      exact k h7 tk7 _ H7 K7 en7 _ na6 zs D7.keep D7.gd (D7.at_ 6 e1) (D7.at_ 5 e2) (D7.at_ 4 e3) (D7.at_ 1 e4) hz (D7.fresh_ 6 e1 (nin0 _)) (D7.fresh_ 5 e2 (nin0 _)) (D7.fresh_ 4 e3 (nin0 _)) (D7.fresh_ 1 e4 (nin0 _))
    rcases o6 with rfl | ⟨h6', t6, v6, rfl⟩
    · skip
      refine eng 9 18448722095127920640 (by exact hA) D6 (by kernel_rfl) ?_
      intro χ8 h8 D8
      refine finQ (f := .done .next) (by kernel_rfl) ?_
      exact fin h8 _ _ _ (eHi (objAt χ8.T 6)) (eKi (objAt χ8.T 6)) (eNd (objAt χ8.T 6)) D8 (by kernel_rfl) (by kernel_rfl) (by kernel_rfl) (by kernel_rfl)
    · skip
      refine eng 13 310693954089681793027407872 (by exact hA) D6 (by kernel_rfl) ?_
      intro χ8 h8 D8
      refine finQ (f := .done .next) (by kernel_rfl) ?_
      exact fin h8 _ _ _ (eHi (objAt χ8.T 6)) (eKi (objAt χ8.T 6)) (eNd (objAt χ8.T 6)) D8 (by kernel_rfl) (by kernel_rfl) (by kernel_rfl) (by kernel_rfl)
  · skip
    refine eng 23 192314633078434859603971837565149803750103298319843328 (by exact hA) D (by kernel_rfl) ?_
    intro χ1 h1 D1
    refine enterB 176 2 D1 (by kernel_rfl) (by omega) ?_
    refine body ?_
    refine atCut 1 ?_
    refine top_execs (R := R) ?_
    intro θ
    refine eng 8 844424930131968 (by exact hA) D1 (by kernel_rfl) ?_
    intro χ2 h2 D2
    refine hook2 (fun u v => .call (.builtin "int.__mul__") ⟨[.int 2 u, .int (3 : Nat) v], []⟩) (by kernel_rfl) ?_
    intro x2 y2
    refine mul_spec (by omega) (by omega) ?_
    intro tk2 v2
    refine eng 28 105723667807887862358585004913848968293876208700482628648840462336 (by exact hA) D2 (by kernel_rfl) ?_
    intro χ3 h3 D3
    refine eng2 "special-get-raises" 1 0 1 0 (by exact hA) D3 (by kernel_rfl) ?_
    intro χ4 h4 D4
    refine eng 12 18446745177532924160 (by exact hA) D4 (by kernel_rfl) ?_
    intro χ5 h5 D5
    refine hook (c' := .compStart (ffE ⟨86, 14, 86, 15⟩ ⟨86, 18, 86, 19⟩ ⟨86, 14, 86, 19⟩ ⟨86, 24, 86, 25⟩ ⟨86, 13, 86, 49⟩ (lcI (asV (B176 w)))) 0 (.ref (adrAt χ5.T 2)) (.ref (adrAt χ5.T 1)) (cEnvAt ffS (adrAt χ5.T 0) [] (fdOf (slook (KTw w) 176)) (adrAt χ1.T 2))) (by kernel_rfl) ?_
    have t0 := D5.at_ (a := adrAt χ5.T 0) (o := nsO #[] 0) 0 (by kernel_rfl)
    have t1 := D5.at_ (a := adrAt χ5.T 1) (o := lstX #[] 0) 1 (by kernel_rfl)
    have t2 := D5.at_ (a := adrAt χ5.T 2) (o := riO 0 (7 : Nat)) 2 (by kernel_rfl)
    refine comp_ff (ac_handled hA) 7 (by omega) D5.gd t0 t1 t2 ?_
    intro h6 tk6 es6 en6 na6 zs K6 G6 o6 c0 hz c1
    obtain ⟨oi, hoi⟩ := K6.1 _ _ t2.1
    refine Exists.elim (D5.turnL [(0, nsO es6 en6), (1, lstX zs.toArray na6), (2, oi)] K6 (by kernel_rfl) (by kernel_rfl) (all3 c0.1 c1.1 hoi)) ?_
    intro Z6 D6
    have fin : ∀ h7 Z7 T7 tk7 H7 K7 en7 (D7 : Rep (KTw w) h [] h7 T7 Z7) (e1 : nth T7 6 = some (adrAt χ1.T 2, frL H7 K7 (run1 3 ld u1 u2 Pi Dr (adrAt χ5.T 1)) en7)) (e2 : nth T7 5 = some (adrAt χ1.T 2 + 1, cellO (.ref Tb))) (e3 : nth T7 4 = some (adrAt χ1.T 2 + 2, cell0)) (e4 : nth T7 1 = some (adrAt χ5.T 1, lstX zs.toArray na6)),
        wpAny (model pw w) (A.deeper (E176 w (adrAt χ1.T 2))) (execs ((B176 w).drop 1) (E176 w (adrAt χ1.T 2))) (fun f s' => R (.ok (.ret (valOf f))) s') (fun _ _ => False) ⟨h7, g, dr, tk7, os⟩ := by
      intro h7 Z7 T7 tk7 H7 K7 en7 D7 e1 e2 e3 e4
      exact k h7 tk7 _ H7 K7 en7 _ na6 zs D7.keep D7.gd (D7.at_ 6 e1) (D7.at_ 5 e2) (D7.at_ 4 e3) (D7.at_ 1 e4) hz (D7.fresh_ 6 e1 (nin0 _)) (D7.fresh_ 5 e2 (nin0 _)) (D7.fresh_ 4 e3 (nin0 _)) (D7.fresh_ 1 e4 (nin0 _))
    rcases o6 with rfl | ⟨h6', t6, v6, rfl⟩
    · skip
      refine eng 9 18448722095127920640 (by exact hA) D6 (by kernel_rfl) ?_
      intro χ8 h8 D8
      refine finQ (f := .done .next) (by kernel_rfl) ?_
      exact fin h8 _ _ _ (eHi (objAt χ8.T 6)) (eKi (objAt χ8.T 6)) (eNd (objAt χ8.T 6)) D8 (by kernel_rfl) (by kernel_rfl) (by kernel_rfl) (by kernel_rfl)
    · skip
      refine eng 13 310693954089681793027407872 (by exact hA) D6 (by kernel_rfl) ?_
      intro χ8 h8 D8
      refine finQ (f := .done .next) (by kernel_rfl) ?_
      exact fin h8 _ _ _ (eHi (objAt χ8.T 6)) (eKi (objAt χ8.T 6)) (eNd (objAt χ8.T 6)) D8 (by kernel_rfl) (by kernel_rfl) (by kernel_rfl) (by kernel_rfl)
  · skip
    refine eng 23 192314633078434859603971837565149803750103298319843328 (by exact hA) D (by kernel_rfl) ?_
    intro χ1 h1 D1
    refine enterB 176 2 D1 (by kernel_rfl) (by omega) ?_
    refine body ?_
    refine atCut 1 ?_
    refine top_execs (R := R) ?_
    intro θ
    refine eng 8 844424930131968 (by exact hA) D1 (by kernel_rfl) ?_
    intro χ2 h2 D2
    refine hook2 (fun u v => .call (.builtin "int.__mul__") ⟨[.int 2 u, .int (4 : Nat) v], []⟩) (by kernel_rfl) ?_
    intro x2 y2
    refine mul_spec (by omega) (by omega) ?_
    intro tk2 v2
    refine eng 28 105723667807887862358585004913848968293876208700482628648840462336 (by exact hA) D2 (by kernel_rfl) ?_
    intro χ3 h3 D3
    refine eng2 "special-get-raises" 1 0 1 0 (by exact hA) D3 (by kernel_rfl) ?_
    intro χ4 h4 D4
    refine eng 12 18446745177532924160 (by exact hA) D4 (by kernel_rfl) ?_
    intro χ5 h5 D5
    refine hook (c' := .compStart (ffE ⟨86, 14, 86, 15⟩ ⟨86, 18, 86, 19⟩ ⟨86, 14, 86, 19⟩ ⟨86, 24, 86, 25⟩ ⟨86, 13, 86, 49⟩ (lcI (asV (B176 w)))) 0 (.ref (adrAt χ5.T 2)) (.ref (adrAt χ5.T 1)) (cEnvAt ffS (adrAt χ5.T 0) [] (fdOf (slook (KTw w) 176)) (adrAt χ1.T 2))) (by kernel_rfl) ?_
    have t0 := D5.at_ (a := adrAt χ5.T 0) (o := nsO #[] 0) 0 (by kernel_rfl)
    have t1 := D5.at_ (a := adrAt χ5.T 1) (o := lstX #[] 0) 1 (by kernel_rfl)
    have t2 := D5.at_ (a := adrAt χ5.T 2) (o := riO 0 (9 : Nat)) 2 (by kernel_rfl)
    refine comp_ff (ac_handled hA) 9 (by omega) D5.gd t0 t1 t2 ?_
    intro h6 tk6 es6 en6 na6 zs K6 G6 o6 c0 hz c1
    obtain ⟨oi, hoi⟩ := K6.1 _ _ t2.1
    refine Exists.elim (D5.turnL [(0, nsO es6 en6), (1, lstX zs.toArray na6), (2, oi)] K6 (by kernel_rfl) (by kernel_rfl) (all3 c0.1 c1.1 hoi)) ?_
    intro Z6 D6
    have fin : ∀ h7 Z7 T7 tk7 H7 K7 en7 (D7 : Rep (KTw w) h [] h7 T7 Z7) (e1 : nth T7 6 = some (adrAt χ1.T 2, frL H7 K7 (run1 4 ld u1 u2 Pi Dr (adrAt χ5.T 1)) en7)) (e2 : nth T7 5 = some (adrAt χ1.T 2 + 1, cellO (.ref Tb))) (e3 : nth T7 4 = some (adrAt χ1.T 2 + 2, cell0)) (e4 : nth T7 1 = some (adrAt χ5.T 1, lstX zs.toArray na6)),
        wpAny (model pw w) (A.deeper (E176 w (adrAt χ1.T 2))) (execs ((B176 w).drop 1) (E176 w (adrAt χ1.T 2))) (fun f s' => R (.ok (.ret (valOf f))) s') (fun _ _ => False) ⟨h7, g, dr, tk7, os⟩ := by
      intro h7 Z7 T7 tk7 H7 K7 en7 D7 e1 e2 e3 e4
      exact k h7 tk7 _ H7 K7 en7 _ na6 zs D7.keep D7.gd (D7.at_ 6 e1) (D7.at_ 5 e2) (D7.at_ 4 e3) (D7.at_ 1 e4) hz (D7.fresh_ 6 e1 (nin0 _)) (D7.fresh_ 5 e2 (nin0 _)) (D7.fresh_ 4 e3 (nin0 _)) (D7.fresh_ 1 e4 (nin0 _))
    rcases o6 with rfl | ⟨h6', t6, v6, rfl⟩
    · skip
      refine eng 9 18448722095127920640 (by exact hA) D6 (by kernel_rfl) ?_
      intro χ8 h8 D8
      refine finQ (f := .done .next) (by kernel_rfl) ?_
      exact fin h8 _ _ _ (eHi (objAt χ8.T 6)) (eKi (objAt χ8.T 6)) (eNd (objAt χ8.T 6)) D8 (by kernel_rfl) (by kernel_rfl) (by kernel_rfl) (by kernel_rfl)
    · skip
      refine eng 13 310693954089681793027407872 (by exact hA) D6 (by kernel_rfl) ?_
      intro χ8 h8 D8
      refine finQ (f := .done .next) (by kernel_rfl) ?_
      exact fin h8 _ _ _ (eHi (objAt χ8.T 6)) (eKi (objAt χ8.T 6)) (eNd (objAt χ8.T 6)) D8 (by kernel_rfl) (by kernel_rfl) (by kernel_rfl) (by kernel_rfl)
def Aside (h : Heap) (ks : List Addr) : Prop := ∀ a ∈ ks, ∀ o, h.get? a = some o → o.cls ≠ .ref 101 ∧ o.cls ≠ .type "dict" ∧ o.cls ≠ .type "tuple"
theorem aside0 : Aside h [] := fun _ h => (nomatch h)
theorem aside1 {x : Addr} {o : Obj} (e : h.get? x = some o) (n1 : o.cls ≠ .ref 101) (n2 : o.cls ≠ .type "dict") (n3 : o.cls ≠ .type "tuple") : Aside h [x] := by
  intro a ha o' e'
  rw [List.mem_singleton.mp ha, e] at e'
  cases e'; exact ⟨n1, n2, n3⟩
theorem Aside.cons {x : Addr} {ks : List Addr} {o : Obj} (e : h.get? x = some o) (n1 : o.cls ≠ .ref 101) (n2 : o.cls ≠ .type "dict") (n3 : o.cls ≠ .type "tuple") (r : Aside h ks) : Aside h (x :: ks) := by
  intro a ha o' e'
  rcases List.mem_cons.mp ha with rfl | ha
  · rw [e] at e'; cases e'; exact ⟨n1, n2, n3⟩
  · exact r a ha o' e'
theorem Acc.kpc {h h' : Heap} {ks : List Addr} {p : Addr} {f : Int} {cs : List (Str × Str)} (x : Acc w h p f cs) (K : Kp ks h h') (a : Aside h ks) : Acc w h' p f cs := by
  obtain ⟨p0, d, n, qs, s, t1, t2, e, ap, ad, r⟩ := x
  exact ⟨p0, d, n, qs, s, t1, t2, e, ap.kp K (fun q => (a _ q _ ap.1).1 rfl), ad.kp K (fun q => (a _ q _ ad.1).2.1 rfl), r.kpc K fun b hb o e => (a b hb o e).2.2⟩
theorem MadeL.kp {h₀ h h' : Heap} {ks : List Addr} {zs : List Value} {fs : List Nat} (x : MadeL w h₀ h zs fs) (K : Kp ks h h') (a : ∀ a ∈ ks, ∀ o, h.get? a = some o → o.cls ≠ .ref 101 ∧ (o.cls ≠ .type "dict" ∨ ∃ o', h₀.get? a = some o')) : MadeL w h₀ h' zs fs := by
  induction x with
  | nil => exact .nil
  | cons ap ad e e' n _ ih =>
    refine .cons (ap.kp K (fun q => (a _ q _ ap.1).1 rfl)) (ad.kp K (fun q => ?_)) e e' n ih
    rcases (a _ q _ ad.1).2 with z | ⟨o', z⟩
    · exact z rfl
    · rw [e'] at z; cases z
theorem all3p {P : Nat × Obj → Prop} {a b c : Nat × Obj} (h1 : P a) (h2 : P b) (h3 : P c) : ∀ u ∈ [a, b, c], P u := all3 h1 h2 h3
theorem run_b {E : Value → Shared → Prop} {Q : Flow → Shared → Prop} {F Pi Dr fl : Addr} {H : Nat → Int} {K : Nat → Tok} {half ld en nf : Nat} {u1 u2 : Tok} {vs : List Value} {fs : List Nat}
    (hA : A.handled = none) (hd : A.depth + 100 < recursionLimit) (hu : A.units + 300 < cLine) (G : Gd w h) (aF : At w h F (frL H K (run1 half ld u1 u2 Pi Dr fl) en)) (aC : At w h (F + 2) cell0) (af : At w h fl (lstX vs.toArray nf)) (hf : NatsAre vs fs) (hl : vs.length ≤ 100) (zZ : ∃ o, h.get? 182 = some o)
    (k' : ∀ h' tk' P nP zs, Kp [F + 2] h h' → Gd w h' → At w h' (F + 2) (cellO (.ref P)) → At w h' P (lstX zs.toArray nP) → MadeL w h h' zs fs → h.get? P = none → wpAny (model pw w) A (execs ((B176 w).drop 2) (E176 w F)) Q E ⟨h', g, dr, tk', os⟩) :
    wpAny (model pw w) A (execs ((B176 w).drop 1) (E176 w F)) Q E ⟨h, g, dr, tk, os⟩ := by
  obtain ⟨Z, D⟩ : ∃ Z, Rep (KTw w) h [F, F + 2, fl] h [(F, frL H K (run1 half ld u1 u2 Pi Dr fl) en), (F + 2, cell0), (fl, lstX vs.toArray nf)] Z := Rep.initC (T := [(F, frL H K (run1 half ld u1 u2 Pi Dr fl) en), (F + 2, cell0), (fl, lstX vs.toArray nf)]) G (oc aF (oc aC (oc af on))) (by kernel_rfl)
  refine atCut 1 ?_
  refine top_execs (R := fun _ _ => True) ?_
  intro θ
  refine eng 6 3311419850752 (by exact hA) D (by kernel_rfl) ?_
  intro χ1 h1 D1
  refine eng2 "special-get-raises" 1 0 1 0 (by exact hA) D1 (by kernel_rfl) ?_
  intro χ2 h2 D2
  refine eng 8 1099511628544 (by exact hA) D2 (by kernel_rfl) ?_
  intro χ3 h3 D3
  refine hook (c' := .compStart (mkE ⟨87, 14, 87, 26⟩ ⟨87, 27, 87, 32⟩ ⟨87, 14, 87, 33⟩ ⟨87, 38, 87, 43⟩ ⟨87, 13, 87, 54⟩ (lcI (asV ((B176 w).drop 1)))) 0 (.ref (adrAt χ3.T 2)) (.ref (adrAt χ3.T 1)) (cEnvAt mkS (adrAt χ3.T 0) [] (fdOf (slook (KTw w) 176)) F)) (by kernel_rfl) ?_
  have K3 : Kp [] h h3 := Rep.kpF 3 [true, true, true] D D3 (by kernel_rfl)
  have t0 := D3.at_ (a := adrAt χ3.T 0) (o := nsO #[] 0) 0 (by kernel_rfl)
  have t1 := D3.at_ (a := adrAt χ3.T 1) (o := lstX #[] 0) 1 (by kernel_rfl)
  have t2 := D3.at_ (a := adrAt χ3.T 2) (o := liO (.ref fl) (.int 0 0)) 2 (by kernel_rfl)
  have t5 := D3.at_ (a := fl) (o := lstX vs.toArray nf) 5 (by kernel_rfl)
  refine comp_mk (so := lstX vs.toArray nf) (src := fl) (ns0 := nf) (vs := vs) (ns := fs) (ti := 0) (ac_handled hA) (depL (b := A.depth) 0 (by kernel_rfl) hd rfl) (depL (b := A.units) 0 (by kernel_rfl) hu rfl) rfl hf (by omega) D3.gd t0 t1 t2 t5 (nin3 (ne_of_cls t5.1 t0.1 (by kernel_rfl)) (D3.apart (a := fl) (o := lstX vs.toArray nf) (b := adrAt χ3.T 1) (o' := lstX #[] 0) 5 1 (by kernel_rfl)) (ne_of_cls t5.1 t2.1 (by kernel_rfl))) (by obtain ⟨o, e⟩ := zZ; exact K3.1 _ _ e) ?_
  intro h6 tk6 es6 en6 na6 v6 zs K6 G6 o6 c0 hm c1 c2
  refine Exists.elim (D3.turnL [(0, nsO es6 en6), (1, lstX zs.toArray na6), (2, liO .none v6)] K6 (by kernel_rfl) (by kernel_rfl) (all3 c0.1 c1.1 c2.1)) ?_
  intro Z6 D6
  have K06 : Kp [] h h6 := Rep.kpF 3 [true, true, true] D D6 (by kernel_rfl)
  have fP := D3.fresh_ (a := adrAt χ3.T 1) (o := lstX #[] 0) 1 (by kernel_rfl) (nin3 (D3.apart (a := adrAt χ3.T 1) (o := lstX #[] 0) (b := F) (o' := objAt χ3.T 3) 1 3 (by kernel_rfl)) (D3.apart (a := adrAt χ3.T 1) (o := lstX #[] 0) (b := F + 2) (o' := objAt χ3.T 4) 1 4 (by kernel_rfl)) (D3.apart (a := adrAt χ3.T 1) (o := lstX #[] 0) (b := fl) (o' := objAt χ3.T 5) 1 5 (by kernel_rfl)))
  have fL := D3.fresh_ (a := adrAt χ3.T 0) (o := nsO #[] 0) 0 (by kernel_rfl) (nin3 (D3.apart (a := adrAt χ3.T 0) (o := nsO #[] 0) (b := F) (o' := objAt χ3.T 3) 0 3 (by kernel_rfl)) (D3.apart (a := adrAt χ3.T 0) (o := nsO #[] 0) (b := F + 2) (o' := objAt χ3.T 4) 0 4 (by kernel_rfl)) (D3.apart (a := adrAt χ3.T 0) (o := nsO #[] 0) (b := fl) (o' := objAt χ3.T 5) 0 5 (by kernel_rfl)))
  rcases o6 with rfl | ⟨h6', t6, v6', rfl⟩
  · skip
    have D7 := D6.to _ rfl
    clear D6
    refine eng 6 21558722561 (by exact hA) D7 (by kernel_rfl) ?_
    intro χ8 h8 D8
    refine finQ (f := .done .next) (by kernel_rfl) ?_
    have K8 : Kp [adrAt χ3.T 0, F + 2] h6 h8 := Rep.kpF 0 [false, true, true, true, false, true] D7 D8 (by kernel_rfl)
    have bC := D7.at_ (a := F + 2) (o := cell0) 4 (by kernel_rfl)
    have hm8 := hm.kp K8 (by
      intro a ha o e
      rcases List.mem_cons.mp ha with rfl | ha
      · rw [c0.1] at e; cases e; exact ⟨by simp, .inr ⟨_, t0.1⟩⟩
      · rw [List.mem_singleton.mp ha, bC.1] at e; cases e; exact ⟨by simp, .inl (by simp)⟩)
    have K08 : Kp [F + 2] h h8 := (K06.weak (ks' := [F + 2]) (by simp)).trans K8 fun x o e q => by
      rcases List.mem_cons.mp q with rfl | q
      · rw [fL] at e; cases e
      · exact q
    exact k' h8 _ (adrAt χ3.T 1) na6 zs K08 D8.gd (D8.at_ 4 (by kernel_rfl)) (D8.at_ 1 (by kernel_rfl)) (hm8.base K3) fP
  · skip
    have D7 := D6.to _ rfl
    clear D6
    refine eng 10 92594008338754240513 (by exact hA) D7 (by kernel_rfl) ?_
    intro χ8 h8 D8
    refine finQ (f := .done .next) (by kernel_rfl) ?_
    have K8 : Kp [adrAt χ3.T 0, F + 2] h6 h8 := Rep.kpF 0 [false, true, true, true, false, true] D7 D8 (by kernel_rfl)
    have bC := D7.at_ (a := F + 2) (o := cell0) 4 (by kernel_rfl)
    have hm8 := hm.kp K8 (by
      intro a ha o e
      rcases List.mem_cons.mp ha with rfl | ha
      · rw [c0.1] at e; cases e; exact ⟨by simp, .inr ⟨_, t0.1⟩⟩
      · rw [List.mem_singleton.mp ha, bC.1] at e; cases e; exact ⟨by simp, .inl (by simp)⟩)
    have K08 : Kp [F + 2] h h8 := (K06.weak (ks' := [F + 2]) (by simp)).trans K8 fun x o e q => by
      rcases List.mem_cons.mp q with rfl | q
      · rw [fL] at e; cases e
      · exact q
    exact k' h8 _ (adrAt χ3.T 1) na6 zs K08 D8.gd (D8.at_ 4 (by kernel_rfl)) (D8.at_ 1 (by kernel_rfl)) (hm8.base K3) fP
def Pz2 (pz : List (Str × Value)) : Prop := pz = [] ∨ ∃ v1 v2, pz = ([("white", v1), ("part", v2)] : List (Str × Value))
theorem fill_loop {F P p d it fl Pi Dr : Addr} {half ld kh nP : Nat} {u1 u2 t1 t2 : Tok} {ps hs : List Addr} {hcs : List (Str × Str)} {x1 f : Int}
    (hA : A.handled = none) (hd : A.depth + 40 < recursionLimit) (hPk : ps[half]? = some p) (hps : ps.length ≤ 100) :
    ∀ (rest : List Addr) (i : Nat) (h : Heap) (tk : Nat) (pz : List (Str × Value)) (H : Nat → Int) (K : Nat → Tok) (en n1 : Nat) (qs : List Addr) (cs : List (Str × Str)) (ti : Tok), hs.drop i = rest → Pz2 pz → Gd w h →
      At w h F (frL H K (run1 half ld u1 u2 Pi Dr fl ++ pz) en) → At w h (F + 2) (cellO (.ref P)) → At w h P (lstO (ps.map .ref) nP) → At w h p (accO d qs n1) → At w h d (dctO x1 t1 f t2) → At w h Pi (lstO (hs.map .ref) kh) → At w h it (liO (.ref Pi) (.int i ti)) →
      Row w h qs cs → Row w h hs hcs → qs.length + rest.length ≤ 100 →
      (∀ h' tk' pz' H' K' en' n1' qs', Kp [F, p, it] h h' → Gd w h' → Pz2 pz' → (pz ≠ [] ∨ rest ≠ [] → pz' ≠ []) → At w h' F (frL H' K' (run1 half ld u1 u2 Pi Dr fl ++ pz') en') → At w h' p (accO d qs' n1') → Row w h' qs' (cs ++ hcs.drop i) → R (.ok .next) ⟨h', g, dr, tk', os⟩) →
      codeAny (model pw w) A (.forLoop (foT ((B176 w).drop 2)) (.ref it) (foB ((B176 w).drop 2)) (foO ((B176 w).drop 2)) (E176 w F)) R ⟨h, g, dr, tk, os⟩ := by
  intro rest
  induction rest with
  | nil =>
    intro i h tk pz H K en n1 qs cs ti hr hpz G aF aC aP ap ad ah aI rq rh hsz k'
    obtain ⟨Z, D⟩ : ∃ Z, Rep (KTw w) h [it] h [(it, liO (.ref Pi) (.int i ti))] Z := Rep.initC (T := [(it, liO (.ref Pi) (.int i ti))]) G (oc aI on) (by kernel_rfl)
    refine Mine.start (Q := fun _ _ => True) (E := fun _ _ => True) ?_
    refine eng 2 256 (by exact hA) D (by kernel_rfl) ?_
    intro χ1 h1 D1
    refine hook (c' := .call (.builtin "list_iterator.__next__") ⟨[.ref it], []⟩) (by kernel_rfl) ?_
    have hi : hs.length ≤ i := List.drop_eq_nil_iff.mp hr
    have hci : hcs.drop i = [] := List.drop_eq_nil_iff.mpr (by rw [← rh.length]; exact hi)
    have K1 : Kp [] h h1 := Rep.kpF 0 [true] D D1 (by kernel_rfl)
    refine li_next_none (i := i) (src := Pi) (ti := ti) (xs := (hs.map Value.ref).toArray) (n := kh) (so := lstO (hs.map .ref) kh) (ac_handled hA) D1.gd (D1.at_ 0 (by kernel_rfl)) (K1.2 _ _ ah.1 (nin0 _)) rfl (by simp [hi]) ?_
    intro h2 tk2 e t K2 a2 ae he
    refine Exists.elim ((D1.turnPlus (j := 0) (x := (it, liO (.ref Pi) (.int i ti))) (by kernel_rfl) K2 a2.1 ae he).ex) ?_
    intro Z2 D2
    refine eng 2 1 (by exact hA) D2 (by kernel_rfl) ?_
    intro χ3 h3 D3
    refine fin (f := .next) (by kernel_rfl) ?_
    have K3 : Kp [it] h h3 := D3.keep
    have nk : ∀ a ∈ [it], ∀ o, h.get? a = some o → o.cls ≠ .type "tuple" := ntup aI.1 (by simp)
    refine k' h3 _ pz H K en n1 qs (K3.weak (by simp)) D3.gd hpz (fun z => z.elim (fun z => z) (fun z => absurd rfl z)) (aF.kp K3 (nin1 (ne_of_cls aF.1 aI.1 (by kernel_rfl)))) (ap.kp K3 (nin1 (ne_of_cls ap.1 aI.1 (by kernel_rfl)))) ?_
    rw [hci, List.append_nil]
    exact rq.kpc K3 nk
  | cons q rest ih =>
    intro i h tk pz H K en n1 qs cs ti hr hpz G aF aC aP ap ad ah aI rq rh hsz k'
    have hv : (hs.map Value.ref).toArray[i]? = some (.ref q) := by
      have := List.head?_drop (l := hs) (i := i)
      rw [hr] at this
      simp [← this]
    have hr' : hs.drop (i + 1) = rest := by rw [← List.drop_drop, hr]; rfl
    obtain ⟨c, ec, tq⟩ := rh.get (i := i) (q := q) (by have := List.head?_drop (l := hs) (i := i); rw [hr] at this; simpa using this.symm)
    obtain ⟨s1, s2, tq⟩ := tq
    have nk : ∀ a ∈ [F, p, it], ∀ o, h.get? a = some o → o.cls ≠ .type "tuple" := nk3 aF ap aI (by simp) (by simp) (by simp)
    have done : ∀ h6 tk6 v v' H6 K6' en6 n6 q6 ti6, Kp [F, p, it] h h6 → Gd w h6 → At w h6 F (frL H6 K6' (run1 half ld u1 u2 Pi Dr fl ++ ([("white", v), ("part", v')] : List (Str × Value))) en6) → At w h6 (F + 2) (cellO (.ref P)) → At w h6 P (lstO (ps.map .ref) nP) → At w h6 p (accO d (qs ++ [q6]) n6) → At w h6 d (dctO x1 t1 f t2) → At w h6 it (liO (.ref Pi) (.int (i + 1 : Nat) ti6)) → Tup w h6 q6 c →
        codeAny (model pw w) A (.forLoop (foT ((B176 w).drop 2)) (.ref it) (foB ((B176 w).drop 2)) (foO ((B176 w).drop 2)) (E176 w F)) R ⟨h6, g, dr, tk6, os⟩ := by
      intro h6 tk6 v v' H6 K6' en6 n6 q6 ti6 K6 G6 bF bC bP bp bd bI bq
      have bh : At w h6 Pi (lstO (hs.map .ref) kh) := ah.kp K6 (nin3 (ne_of_cls ah.1 aF.1 (by kernel_rfl)) (ne_of_cls ah.1 ap.1 (by kernel_rfl)) (ne_of_cls ah.1 aI.1 (by kernel_rfl)))
      refine ih (i + 1) h6 tk6 ([("white", v), ("part", v')] : List (Str × Value)) H6 K6' en6 n6 (qs ++ [q6]) (cs ++ [c]) ti6 hr' (.inr ⟨v, v', rfl⟩) G6 bF bC bP bp bd bh bI ((rq.kpc K6 nk).app (.cons bq .nil)) (rh.kpc K6 nk) (by simp at hsz ⊢; omega) ?_
      intro h' tk' pz' H' K' en' n1' qs' Kx Gx pzx nx cF cp cR
      refine k' h' tk' pz' H' K' en' n1' qs' (K6.trans Kx fun _ _ _ q => q) Gx pzx (fun _ => nx (.inl (by simp))) cF cp ?_
      have e : cs ++ hcs.drop i = cs ++ [c] ++ hcs.drop (i + 1) := by
        have hl := (List.getElem?_eq_some_iff.mp ec).1
        have e2 := (List.getElem?_eq_some_iff.mp ec).2
        rw [List.drop_eq_getElem_cons hl, e2]; simp
      rw [e]; exact cR
    rcases hpz with rfl | ⟨v0, v0', rfl⟩
    · skip
      obtain ⟨Z, D⟩ : ∃ Z, Rep (KTw w) h [F, F + 2, P, p, d, it, q] h [(F, frL H K (run1 half ld u1 u2 Pi Dr fl ++ []) en), (F + 2, cellO (.ref P)), (P, lstO (ps.map .ref) nP), (p, accO d qs n1), (d, dctO x1 t1 f t2), (it, liO (.ref Pi) (.int i ti)), (q, tupO c.1 s1 c.2 s2)] Z := Rep.initC (T := [(F, frL H K (run1 half ld u1 u2 Pi Dr fl ++ []) en), (F + 2, cellO (.ref P)), (P, lstO (ps.map .ref) nP), (p, accO d qs n1), (d, dctO x1 t1 f t2), (it, liO (.ref Pi) (.int i ti)), (q, tupO c.1 s1 c.2 s2)]) G (oc aF (oc aC (oc aP (oc ap (oc ad (oc aI (oc tq on))))))) (by kernel_rfl)
      refine Mine.start (Q := fun _ _ => True) (E := fun _ _ => True) ?_
      refine eng 2 1536 (by exact hA) D (by kernel_rfl) ?_
      intro χ1 h1 D1
      refine hook (c' := .call (.builtin "list_iterator.__next__") ⟨[.ref it], []⟩) (by kernel_rfl) ?_
      have K1 : Kp [] h h1 := Rep.kpF 0 [true, true, true, true, true, true, true] D D1 (by kernel_rfl)
      refine li_next_some (i := i) (src := Pi) (ti := ti) (v := .ref q) (xs := (hs.map Value.ref).toArray) (n := kh) (so := lstO (hs.map .ref) kh) (ac_handled hA) D1.gd (D1.at_ 5 (by kernel_rfl)) (K1.2 _ _ ah.1 (nin0 _)) rfl hv ?_
      intro h2 tk2 K2 a2
      refine Exists.elim ((D1.turn (j := 5) (x := (it, liO (.ref Pi) (.int i ti))) (by kernel_rfl) K2 a2.1).ex) ?_
      intro Z2 D2
      refine eng 5 30182670342 (by exact hA) D2 (by kernel_rfl) ?_
      intro χ3 h3 D3
      refine eng2 "special-get-raises" 1 0 1 0 (by exact hA) D3 (by kernel_rfl) ?_
      intro χ4 h4 D4
      refine eng 64 315477814890542209538843210126039385040462530486696196993205046248226333124281179413945508251323778943244187484394946559057299961838359282398630533662464 (by exact hA) D4 (by kernel_rfl) ?_
      intro χ5 h5 D5
      refine hook2 (fun u v => .call (.builtin "list.__getitem__") ⟨[.ref P, .int (half : Nat) v], []⟩) (by kernel_rfl) ?_
      intro x9 y9
      refine getitem_spec (v := .ref p) (vs := ps.map Value.ref) (n := nP) (D5.at_ (a := P) (o := lstO (ps.map .ref) nP) 5 (by kernel_rfl)).1 (get_map hPk) (by simp; omega) ?_
      refine eng 23 5846095752315075965351594577571418229810399282944 (by exact hA) D5 (by kernel_rfl) ?_
      intro χ10 h10 D10
      refine hook (c' := .call (.ref 45) ⟨[.ref p, .str c.1 s1, .str c.2 s2], []⟩) (by kernel_rfl) ?_
      refine push_spec (d := d) (qs := qs) (n := n1) (f := f) (hs := x1) (tk1 := t1) (tk2 := t2) (ac_handled hA) (depL (b := A.depth) 0 (by kernel_rfl) hd rfl) D10.gd (D10.at_ (a := p) (o := accO d qs n1) 6 (by kernel_rfl)) (D10.at_ (a := d) (o := dctO x1 t1 f t2) 7 (by kernel_rfl)) (by simp at hsz; omega) ?_
      intro h15 tk15 q15 n15 K15 aq15 fq15 ap15
      refine Exists.elim ((D10.turnPlus (j := 6) (x := (p, accO d qs n1)) (by kernel_rfl) K15 ap15.1 aq15 fq15).ex) ?_
      intro Z15 D15
      refine eng 1 0 (by exact hA) D15 (by kernel_rfl) ?_
      intro χ16 h16 D16
      refine againC (c' := .forLoop (foT ((B176 w).drop 2)) (.ref it) (foB ((B176 w).drop 2)) (foO ((B176 w).drop 2)) (E176 w F)) (c := .forLoop (foT ((B176 w).drop 2)) (.ref it) (foB ((B176 w).drop 2)) (foO ((B176 w).drop 2)) (E176 w F)) (by kernel_rfl) ?_
      have K6 : Kp [F, p, it] h h16 := Rep.kpF 4 [false, true, true, false, true, false, true] D D16 (by kernel_rfl)
      have bF := D16.at_ (a := F) (o := frL (eHi (objAt χ16.T 4)) (eKi (objAt χ16.T 4)) (run1 half ld u1 u2 Pi Dr fl ++ ([("white", .str c.1 s1), ("part", .str c.2 s2)] : List (Str × Value))) (eNd (objAt χ16.T 4))) 4 (by kernel_rfl)
      have bC := D16.at_ (a := F + 2) (o := cellO (.ref P)) 5 (by kernel_rfl)
      have bP := D16.at_ (a := P) (o := lstO (ps.map .ref) nP) 6 (by kernel_rfl)
      have bp := D16.at_ (a := p) (o := accO d (qs ++ [q15]) n15) 7 (by kernel_rfl)
      have bd := D16.at_ (a := d) (o := dctO x1 t1 f t2) 8 (by kernel_rfl)
      have bI := D16.at_ (a := it) (o := liO (.ref Pi) (.int (i + 1 : Nat) 0)) 9 (by kernel_rfl)
      have bq := D16.at_ (a := q15) (o := tupO c.1 s1 c.2 s2) 0 (by kernel_rfl)
      exact done h16 _ _ _ _ _ _ n15 q15 0 K6 D16.gd bF bC bP bp bd bI ⟨_, _, bq⟩
    · skip
      obtain ⟨Z, D⟩ : ∃ Z, Rep (KTw w) h [F, F + 2, P, p, d, it, q] h [(F, frL H K (run1 half ld u1 u2 Pi Dr fl ++ ([("white", v0), ("part", v0')] : List (Str × Value))) en), (F + 2, cellO (.ref P)), (P, lstO (ps.map .ref) nP), (p, accO d qs n1), (d, dctO x1 t1 f t2), (it, liO (.ref Pi) (.int i ti)), (q, tupO c.1 s1 c.2 s2)] Z := Rep.initC (T := [(F, frL H K (run1 half ld u1 u2 Pi Dr fl ++ ([("white", v0), ("part", v0')] : List (Str × Value))) en), (F + 2, cellO (.ref P)), (P, lstO (ps.map .ref) nP), (p, accO d qs n1), (d, dctO x1 t1 f t2), (it, liO (.ref Pi) (.int i ti)), (q, tupO c.1 s1 c.2 s2)]) G (oc aF (oc aC (oc aP (oc ap (oc ad (oc aI (oc tq on))))))) (by kernel_rfl)
      refine Mine.start (Q := fun _ _ => True) (E := fun _ _ => True) ?_
      refine eng 2 1536 (by exact hA) D (by kernel_rfl) ?_
      intro χ1 h1 D1
      refine hook (c' := .call (.builtin "list_iterator.__next__") ⟨[.ref it], []⟩) (by kernel_rfl) ?_
      have K1 : Kp [] h h1 := Rep.kpF 0 [true, true, true, true, true, true, true] D D1 (by kernel_rfl)
      refine li_next_some (i := i) (src := Pi) (ti := ti) (v := .ref q) (xs := (hs.map Value.ref).toArray) (n := kh) (so := lstO (hs.map .ref) kh) (ac_handled hA) D1.gd (D1.at_ 5 (by kernel_rfl)) (K1.2 _ _ ah.1 (nin0 _)) rfl hv ?_
      intro h2 tk2 K2 a2
      refine Exists.elim ((D1.turn (j := 5) (x := (it, liO (.ref Pi) (.int i ti))) (by kernel_rfl) K2 a2.1).ex) ?_
      intro Z2 D2
      refine eng 5 30182670342 (by exact hA) D2 (by kernel_rfl) ?_
      intro χ3 h3 D3
      refine eng2 "special-get-raises" 1 0 1 0 (by exact hA) D3 (by kernel_rfl) ?_
      intro χ4 h4 D4
      refine eng 64 315477814890542209538843210126039385040462530486696196993205046248226333124281179413945508251323778943244187484394946559057299961838359282398630533662464 (by exact hA) D4 (by kernel_rfl) ?_
      intro χ5 h5 D5
      refine hook2 (fun u v => .call (.builtin "list.__getitem__") ⟨[.ref P, .int (half : Nat) v], []⟩) (by kernel_rfl) ?_
      intro x9 y9
      refine getitem_spec (v := .ref p) (vs := ps.map Value.ref) (n := nP) (D5.at_ (a := P) (o := lstO (ps.map .ref) nP) 5 (by kernel_rfl)).1 (get_map hPk) (by simp; omega) ?_
      refine eng 23 5846095752315075965351594577571418229810399282944 (by exact hA) D5 (by kernel_rfl) ?_
      intro χ10 h10 D10
      refine hook (c' := .call (.ref 45) ⟨[.ref p, .str c.1 s1, .str c.2 s2], []⟩) (by kernel_rfl) ?_
      refine push_spec (d := d) (qs := qs) (n := n1) (f := f) (hs := x1) (tk1 := t1) (tk2 := t2) (ac_handled hA) (depL (b := A.depth) 0 (by kernel_rfl) hd rfl) D10.gd (D10.at_ (a := p) (o := accO d qs n1) 6 (by kernel_rfl)) (D10.at_ (a := d) (o := dctO x1 t1 f t2) 7 (by kernel_rfl)) (by simp at hsz; omega) ?_
      intro h15 tk15 q15 n15 K15 aq15 fq15 ap15
      refine Exists.elim ((D10.turnPlus (j := 6) (x := (p, accO d qs n1)) (by kernel_rfl) K15 ap15.1 aq15 fq15).ex) ?_
      intro Z15 D15
      refine eng 1 0 (by exact hA) D15 (by kernel_rfl) ?_
      intro χ16 h16 D16
      refine againC (c' := .forLoop (foT ((B176 w).drop 2)) (.ref it) (foB ((B176 w).drop 2)) (foO ((B176 w).drop 2)) (E176 w F)) (c := .forLoop (foT ((B176 w).drop 2)) (.ref it) (foB ((B176 w).drop 2)) (foO ((B176 w).drop 2)) (E176 w F)) (by kernel_rfl) ?_
      have K6 : Kp [F, p, it] h h16 := Rep.kpF 4 [false, true, true, false, true, false, true] D D16 (by kernel_rfl)
      have bF := D16.at_ (a := F) (o := frL (eHi (objAt χ16.T 4)) (eKi (objAt χ16.T 4)) (run1 half ld u1 u2 Pi Dr fl ++ ([("white", .str c.1 s1), ("part", .str c.2 s2)] : List (Str × Value))) (eNd (objAt χ16.T 4))) 4 (by kernel_rfl)
      have bC := D16.at_ (a := F + 2) (o := cellO (.ref P)) 5 (by kernel_rfl)
      have bP := D16.at_ (a := P) (o := lstO (ps.map .ref) nP) 6 (by kernel_rfl)
      have bp := D16.at_ (a := p) (o := accO d (qs ++ [q15]) n15) 7 (by kernel_rfl)
      have bd := D16.at_ (a := d) (o := dctO x1 t1 f t2) 8 (by kernel_rfl)
      have bI := D16.at_ (a := it) (o := liO (.ref Pi) (.int (i + 1 : Nat) 0)) 9 (by kernel_rfl)
      have bq := D16.at_ (a := q15) (o := tupO c.1 s1 c.2 s2) 0 (by kernel_rfl)
      exact done h16 _ _ _ _ _ _ n15 q15 0 K6 D16.gd bF bC bP bp bd bI ⟨_, _, bq⟩
abbrev run2 (half ld : Nat) (u1 u2 : Tok) (Pi Dr fl : Addr) (v1 v2 : Value) : List (Str × Value) := run1 half ld u1 u2 Pi Dr fl ++ ([("white", v1), ("part", v2)] : List (Str × Value))
theorem run_c {E : Value → Shared → Prop} {Q : Flow → Shared → Prop} {F P p d fl Pi Dr : Addr} {H : Nat → Int} {K : Nat → Tok} {half ld en kh nP n1 : Nat} {u1 u2 t1 t2 : Tok} {x1 f : Int} {ps hs qs : List Addr} {cs hcs : List (Str × Str)}
    (hA : A.handled = none) (hd : A.depth + 100 < recursionLimit) (G : Gd w h) (aF : At w h F (frL H K (run1 half ld u1 u2 Pi Dr fl) en)) (aC : At w h (F + 2) (cellO (.ref P))) (aP : At w h P (lstO (ps.map .ref) nP)) (ap : At w h p (accO d qs n1)) (ad : At w h d (dctO x1 t1 f t2)) (ah : At w h Pi (lstO (hs.map .ref) kh))
    (hPk : ps[half]? = some p) (hps : ps.length ≤ 100) (rq : Row w h qs cs) (rh : Row w h hs hcs) (hsz : qs.length + hs.length ≤ 100) (hne : hs ≠ [])
    (k' : ∀ h' tk' v1 v2 H' K' en' n1' qs', Kp [F, p] h h' → Gd w h' → At w h' F (frL H' K' (run2 half ld u1 u2 Pi Dr fl v1 v2) en') → At w h' p (accO d qs' n1') → Row w h' qs' (cs ++ hcs) → wpAny (model pw w) A (execs ((B176 w).drop 3) (E176 w F)) Q E ⟨h', g, dr, tk', os⟩) :
    wpAny (model pw w) A (execs ((B176 w).drop 2) (E176 w F)) Q E ⟨h, g, dr, tk, os⟩ := by
  obtain ⟨Z, D⟩ : ∃ Z, Rep (KTw w) h [F, p, Pi] h [(F, frL H K (run1 half ld u1 u2 Pi Dr fl) en), (p, accO d qs n1), (Pi, lstO (hs.map .ref) kh)] Z := Rep.initC (T := [(F, frL H K (run1 half ld u1 u2 Pi Dr fl) en), (p, accO d qs n1), (Pi, lstO (hs.map .ref) kh)]) G (oc aF (oc ap (oc ah on))) (by kernel_rfl)
  refine atCut 1 ?_
  refine top_execs (R := fun _ _ => True) ?_
  intro θ
  refine eng 6 3311419850752 (by exact hA) D (by kernel_rfl) ?_
  intro χ1 h1 D1
  refine eng2 "special-get-raises" 1 0 1 0 (by exact hA) D1 (by kernel_rfl) ?_
  intro χ2 h2 D2
  refine eng 6 1099511628544 (by exact hA) D2 (by kernel_rfl) ?_
  intro χ3 h3 D3
  refine hook (c' := .forLoop (foT ((B176 w).drop 2)) (.ref (adrAt χ3.T 0)) (foB ((B176 w).drop 2)) (foO ((B176 w).drop 2)) (E176 w F)) (by kernel_rfl) ?_
  have K3 : Kp [] h h3 := Rep.kpF 1 [true, true, true] D D3 (by kernel_rfl)
  have bI := D3.at_ (a := adrAt χ3.T 0) (o := liO (.ref Pi) (.int 0 0)) 0 (by kernel_rfl)
  refine fill_loop (d := d) (x1 := x1) (f := f) (t1 := t1) (t2 := t2) (ps := ps) (nP := nP) (kh := kh) (hs := hs) (hcs := hcs) (ac_handled hA) (depL (b := A.depth) 0 (by kernel_rfl) hd rfl) hPk hps hs 0 h3 _ [] H K en n1 qs cs 0 rfl (.inl rfl) D3.gd (aF.kp K3 (nin0 _)) (aC.kp K3 (nin0 _)) (aP.kp K3 (nin0 _)) (ap.kp K3 (nin0 _)) (ad.kp K3 (nin0 _)) (ah.kp K3 (nin0 _)) bI (rq.kp0 K3) (rh.kp0 K3) hsz ?_
  intro h4 tk4 pz H4 K4' en4 n4 qs4 K4 G4 hpz hnz bF bp br
  obtain ⟨oi, hoi⟩ := K4.1 _ _ bI.1
  refine Exists.elim (D3.turnM [(1, F, frL H4 K4' (run1 half ld u1 u2 Pi Dr fl ++ pz) en4), (2, p, accO d qs4 n4), (0, adrAt χ3.T 0, oi)] K4 (by kernel_rfl) (by kernel_rfl) rfl (all3m bF.1 bp.1 hoi)) ?_
  intro Z4 D4
  refine finQ (f := .done .next) (by kernel_rfl) ?_
  have K5 : Kp [F, p] h h4 := Rep.kpF 1 [false, false, true] D D4 (by kernel_rfl)
  rcases hpz with rfl | ⟨v1, v2, rfl⟩
  · exact absurd rfl (hnz (.inr hne))
  · exact k' h4 _ v1 v2 H4 K4' en4 n4 qs4 K5 D4.gd bF bp br
theorem TbA.kp {h h' : Heap} {P : Addr} {ps : Array Value} {ks : List Addr} (x : TbA w h P ps) (K : Kp ks h h') (n : P ∉ ks) : TbA w h' P ps := ⟨x.1.kp K n, x.2⟩
theorem all2' {P : Nat × Obj → Prop} {a b : Nat × Obj} (h1 : P a) (h2 : P b) : ∀ u ∈ [a, b], P u := by
  simp only [List.forall_mem_cons]; exact ⟨h1, h2, by simp⟩
theorem nd4f {F C P fl : Addr} (h1 : F ≠ C) (h2 : F ≠ P) (h3 : F ≠ fl) (h4 : C ≠ P) (h5 : C ≠ fl) (h6 : P ≠ fl) : [F, C, P, fl].Nodup := nd4 h1 h2 h3 h4 h5 h6
theorem run_d {E : Value → Shared → Prop} {Q : Flow → Shared → Prop} {F P p d fl Pi Dr : Addr} {H : Nat → Int} {K : Nat → Tok} {half ld en kh nP nf f n : Nat} {u1 u2 : Tok} {v1 v2 : Value} {ps hs qs : List Addr} {cs : List (Str × Str)} {vs : List Value} {fs : List Nat} {ps1 ps2 : Array Value} {s : Int} {t1 t2 : Tok}
    (hA : A.handled = none) (hd : A.depth + 100 < recursionLimit) (hu : A.units + 400 < cLine) (G : Gd w h) (aF : At w h F (frL H K (run2 half ld u1 u2 Pi Dr fl v1 v2) en)) (aC : At w h (F + 2) (cellO (.ref P))) (aP : At w h P (lstO (ps.map .ref) nP)) (af : At w h fl (lstX vs.toArray nf)) (hf : NatsAre vs fs) (hvs : vs.length ≤ 100)
    (hPf : P ≠ fl) (ap : At w h (p + 182) (accO d qs n)) (ad : At w h d (dctO s t1 (f : Nat) t2)) (rq : Row w h qs cs) (hsh : Short cs) (hfk : fs[half]? = some f) (hf3 : f = 0 ∨ f = 1 ∨ f = 2) (hPk : ps[half]? = some (p + 182)) (hps : ps.length ≤ 100) (ah : At w h Pi (lstO (hs.map .ref) kh)) (rh : Row w h hs cs) (ht1 : TbA w h 63 ps1) (ht2 : TbA w h 70 ps2)
    (k' : ∀ h' g' tk' ps1' ps2', Kp [63, 70] h h' → Gd w h' → TbA w h' 63 ps1' → TbA w h' 70 ps2' → (AllBare g → AllBare g') → wpAny (model pw w) A (execs ((B176 w).drop 4) (E176 w F)) Q E ⟨h', g', dr, tk', os⟩) :
    wpAny (model pw w) A (execs ((B176 w).drop 3) (E176 w F)) Q E ⟨h, g, dr, tk, os⟩ := by
  obtain ⟨t, hv⟩ := hf.get hfk
  obtain ⟨Z, D⟩ : ∃ Z, Rep (KTw w) h [F, F + 2, P, fl, 63, 70] h [(F, frL H K (run2 half ld u1 u2 Pi Dr fl v1 v2) en), (F + 2, cellO (.ref P)), (P, lstO (ps.map .ref) nP), (fl, lstX vs.toArray nf), (63, tableObj ps1), (70, tableObj ps2)] Z := Rep.initB [(F, frL H K (run2 half ld u1 u2 Pi Dr fl v1 v2) en), (F + 2, cellO (.ref P)), (P, lstO (ps.map .ref) nP), (fl, lstX vs.toArray nf)] G (oc aF (oc aC (oc aP (oc af on)))) (nd4f (ne_of_cls aF.1 aC.1 (by kernel_rfl)) (ne_of_cls aF.1 aP.1 (by kernel_rfl)) (ne_of_cls aF.1 af.1 (by kernel_rfl)) (ne_of_cls aC.1 aP.1 (by kernel_rfl)) (ne_of_cls aC.1 af.1 (by kernel_rfl)) hPf) rfl ht1 ht2 rfl
  refine atCut 1 ?_
  refine top_execs (R := fun _ _ => True) ?_
  intro θ
  refine eng 11 3640999898806201155059712 (by exact hA) D (by kernel_rfl) ?_
  intro χ1 h1 D1
  refine hook2 (fun u v => .call (.builtin "list.__getitem__") ⟨[.ref P, .int (half : Nat) v], []⟩) (by kernel_rfl) ?_
  intro y1 y2
  refine getitem_spec (v := .ref (p + 182)) (vs := ps.map Value.ref) (n := nP) (D1.at_ (a := P) (o := lstO (ps.map .ref) nP) 2 (by kernel_rfl)).1 (get_map hPk) (by simp; omega) ?_
  refine eng 8 289360674121842944 (by exact hA) D1 (by kernel_rfl) ?_
  intro χ2 h2 D2
  refine hook2 (fun u v => .call (.builtin "list.__getitem__") ⟨[.ref fl, .int (half : Nat) v], []⟩) (by kernel_rfl) ?_
  intro y3 y4
  refine getitem_spec (v := .int (f : Nat) t) (vs := vs) (n := nf) (D2.at_ (a := fl) (o := lstX vs.toArray nf) 3 (by kernel_rfl)).1 hv (by omega) ?_
  refine eng 4 256 (by exact hA) D2 (by kernel_rfl) ?_
  intro χ3 h3 D3
  refine hook (c' := .call (.ref 166) ⟨[.ref (p + 182), .int (f : Nat) t, .ref Pi], []⟩) (by kernel_rfl) ?_
  have K3 : Kp [] h h3 := Rep.kpF 0 [true, true, true, true, true, true] D D3 (by kernel_rfl)
  refine shows_spec (d := d) (n := n) (nr := kh) (hs := s) (tk1 := t1) (tk2 := t2) (qs := qs) (rs := hs) (cs := cs) (ac_handled hA) (depL (b := A.depth) 0 (by kernel_rfl) hd rfl) (depL (b := A.units) 0 (by kernel_rfl) hu rfl) D3.gd (ap.kp K3 (nin0 _)) (ad.kp K3 (nin0 _)) (rq.kp0 K3) hsh (by omega) (ah.kp K3 (nin0 _)) (rh.kp0 K3) (ht1.kp K3 (nin0 _)) (ht2.kp K3 (nin0 _)) ?_
  intro h5 g5 tk5 ps1' ps2' K5 q1 q2 gs
  refine Exists.elim (D3.turnM [(4, 63, tableObj ps1'), (5, 70, tableObj ps2')] K5 (by kernel_rfl) (by kernel_rfl) rfl (all2m q1.1.1 q2.1.1)) ?_
  intro Z5 D5
  refine eng 2 0 (by exact hA) D5 (by kernel_rfl) ?_
  intro χ6 h6 D6
  refine finQ (f := .done .next) (by kernel_rfl) ?_
  have K6 : Kp [63, 70] h h6 := Rep.kpF 0 [true, true, true, true, false, false] D D6 (by kernel_rfl)
  exact k' h6 g5 _ ps1' ps2' K6 D6.gd ⟨D6.at_ 4 (by kernel_rfl), q1.2⟩ ⟨D6.at_ 5 (by kernel_rfl), q2.2⟩ gs
abbrev rgO (a b : Int) (t u v : Tok) : Obj := { cls := .type "range", data := .fields #[.int a t, .int b u, .int 1 v] }
theorem small_nat (n : Nat) (hn : n ≤ 1000) : (Builtin.Range.rangeFitsLong 0 && Builtin.Range.rangeFitsLong (n : Int) && Builtin.Range.rangeFitsLong 1 && Builtin.Range.rangeFitsLong (Builtin.Range.rangeSize 0 n 1) && (Builtin.Range.rangeSize 0 n 1 == 0 || if (1 : Int) > 0 then Builtin.Range.rangeFitsLong ((n : Int) + (1 - 1)) else Builtin.Range.rangeFitsLong ((n : Int) + (1 + 1)))) = true := by
  have e : Builtin.Range.rangeSize 0 n 1 = (n : Int) := by rw [rangeSize_nat]; simp
  rw [e]
  have f : Builtin.Range.rangeFitsLong (n : Int) = true := by unfold Builtin.Range.rangeFitsLong; simp; omega
  have f0 : Builtin.Range.rangeFitsLong 0 = true := by decide
  have f1 : Builtin.Range.rangeFitsLong 1 = true := by decide
  have e2 : (n : Int) + (1 - 1) = n := by omega
  rw [if_pos (by decide), e2, f, f0, f1]
  simp
theorem riter_spec {r : Addr} {n : Nat} {t u v : Tok} (G : Gd w h) (hr : At w h r (rgO 0 (n : Nat) t u v)) (hn : n ≤ 1000)
    (k : ∀ h' it, Kp [] h h' → At w h' it (riO 0 (n : Nat)) → h.get? it = none → R (.ok (.ret (.ref it))) ⟨h', g, dr, tk, os⟩) :
    codeAny (model pw w) A (.call (.builtin "range.__iter__") ⟨[.ref r], []⟩) R ⟨h, g, dr, tk, os⟩ := by
  refine hk_meets F.slot_range_iter ⟨_, hr.1, rfl⟩ F.entry_range_iter (F.args_range_iter_1 _) (AutoRange.range___iter___range_1 r 0 (n : Nat) 1 t u v (by rw [small_nat n hn]; simp)) ⟨hr.1, ?_⟩
  rw [small_nat n hn, show Builtin.Range.rangeSize 0 (n : Nat) 1 = (n : Int) by rw [rangeSize_nat]; simp]
  exact k (h.push (riO 0 (n : Nat))) h.objs.size ((Kp.refl [] h).push _) ⟨Heap.get?_push_size _ rfl, off_fresh (h := h) G (get_size _)⟩ (get_size _)
noncomputable def ASG (t : PySem.Expr) (env : Env) (v : Value) : Sem Fin := PySem.W.R.bindR (PySem.W.ZFast.zw17772580674575903948 t env v) (fun _ => .pure (.done .next))
def onNext (Q : Shared → Prop) : Fin → Shared → Prop := fun f s => match f with
  | .done .next => Q s
  | _ => False
theorem top_assign {prog : Program} {E : Value → Shared → Prop} {t : PySem.Expr} {env : Env} {v : Value} {Q : Shared → Prop} {s : Shared} (h : Mean prog w A (onNext Q) E R none (ASG t env v) [] s) : wpAny (model prog w) A (assign t env v) (fun _ s => Q s) E s := by
  have h' : wpAny (model prog w) A (ASG t env v) (onNext Q) E s := h.holds
  unfold ASG at h'
  rw [← PySem.W.R.bindR_eq, ← PySem.W.ZFast.ze17772580674575903948] at h'
  exact unbind (k := fun _ => Fin.done .next) h'
structure Pl (w : World) (h : Heap) (ps : List Addr) (fs : List Nat) (rows : List (List Nat)) : Prop where
  len : ps.length = rows.length
  lenf : fs.length = rows.length
  nd : ps.Nodup
  acc : ∀ (j : Nat) (p : Addr) (f : Nat) (r : List Nat), ps[j]? = some p → fs[j]? = some f → rows[j]? = some r → Acc w h p (f : Nat) (r.map pc)
theorem Pl.kp {h h' : Heap} {ks : List Addr} {ps : List Addr} {fs : List Nat} {rows : List (List Nat)} (x : Pl w h ps fs rows) (K : Kp ks h h') (a : Aside h ks) : Pl w h' ps fs rows :=
  ⟨x.len, x.lenf, x.nd, fun j p f r e1 e2 e3 => (x.acc j p f r e1 e2 e3).kpc K a⟩
theorem Acc.kpn {h h' : Heap} {ks : List Addr} {p : Addr} {f : Int} {cs : List (Str × Str)} (x : Acc w h p f cs) (K : Kp ks h h') (hp : p ∉ ks) (a : ∀ a ∈ ks, ∀ o, h.get? a = some o → o.cls ≠ .type "dict" ∧ o.cls ≠ .type "tuple") : Acc w h' p f cs := by
  obtain ⟨p0, d, n, qs, s, t1, t2, e, ap, ad, r⟩ := x
  exact ⟨p0, d, n, qs, s, t1, t2, e, ap.kp K hp, ad.kp K (fun q => (a _ q _ ad.1).1 rfl), r.kpc K fun b hb o e => (a b hb o e).2⟩
theorem Acc.obj {p : Addr} {f : Int} {cs : List (Str × Str)} (x : Acc w h p f cs) : ∃ d qs n, At w h p (accO d qs n) := by
  obtain ⟨p0, d, n, qs, s, t1, t2, e, ap, ad, r⟩ := x
  exact ⟨d, qs, n, ap⟩
theorem nodup_get {l : List Addr} (nd : l.Nodup) {i j : Nat} {a : Addr} (hi : l[i]? = some a) (hj : l[j]? = some a) : i = j := by
  obtain ⟨li, ei⟩ := List.getElem?_eq_some_iff.mp hi
  obtain ⟨lj, ej⟩ := List.getElem?_eq_some_iff.mp hj
  exact (List.getElem_inj nd).mp (ei.trans ej.symm)
theorem Pl.turn {h h' : Heap} {ps : List Addr} {fs : List Nat} {rows : List (List Nat)} (x : Pl w h ps fs rows) {m i j l r : Nat} {p0 p1 p2 : Addr} {f0 f1 f2 : Nat} {r0 r1 r2 : List Nat}
    (e0 : ps[m]? = some p0) (e1 : ps[m + 1]? = some p1) (e2 : ps[m + 2]? = some p2) (g0 : fs[m]? = some f0) (g1 : fs[m + 1]? = some f1) (g2 : fs[m + 2]? = some f2) (c0 : rows[m]? = some r0) (c1 : rows[m + 1]? = some r1) (c2 : rows[m + 2]? = some r2)
    (K : Kp [p0, p1, p2] h h') (a0 : Acc w h' p0 (f0 : Nat) ((r0 ++ [l]).map pc)) (a1 : Acc w h' p1 (f1 : Nat) ((Chip.cutR i j r1).map pc)) (a2 : Acc w h' p2 (f2 : Nat) ((r2 ++ [r]).map pc)) :
    Pl w h' ps fs (Chip.turnR rows m i j l r) := by
  refine ⟨by rw [Chip.turnR_len]; exact x.len, by rw [Chip.turnR_len]; exact x.lenf, x.nd, fun q p f rr h1 h2 h3 => ?_⟩
  rw [Chip.turnR_get c0 c1 c2] at h3
  have hlen : m + 2 < rows.length := (List.getElem?_eq_some_iff.mp c2).1
  by_cases q2 : q = m + 2
  · subst q2
    rw [List.getElem?_set_self (by simp; omega)] at h3
    rw [e2] at h1; rw [g2] at h2
    cases h1; cases h2; cases h3
    exact a2
  rw [List.getElem?_set_ne (Ne.symm q2)] at h3
  by_cases q1 : q = m + 1
  · subst q1
    rw [List.getElem?_set_self (by simp; omega)] at h3
    rw [e1] at h1; rw [g1] at h2
    cases h1; cases h2; cases h3
    exact a1
  rw [List.getElem?_set_ne (Ne.symm q1)] at h3
  by_cases q0 : q = m
  · subst q0
    rw [List.getElem?_set_self (by omega)] at h3
    rw [e0] at h1; rw [g0] at h2
    cases h1; cases h2; cases h3
    exact a0
  rw [List.getElem?_set_ne (Ne.symm q0)] at h3
  have n0 : p ≠ p0 := fun z => q0 (nodup_get x.nd (z ▸ h1) e0)
  have n1 : p ≠ p1 := fun z => q1 (nodup_get x.nd (z ▸ h1) e1)
  have n2 : p ≠ p2 := fun z => q2 (nodup_get x.nd (z ▸ h1) e2)
  refine (x.acc q p f rr h1 h2 h3).kpn K (nin3 n0 n1 n2) ?_
  obtain ⟨_, _, _, b0⟩ := (x.acc m p0 f0 r0 e0 g0 c0).obj
  obtain ⟨_, _, _, b1⟩ := (x.acc (m + 1) p1 f1 r1 e1 g1 c1).obj
  obtain ⟨_, _, _, b2⟩ := (x.acc (m + 2) p2 f2 r2 e2 g2 c2).obj
  simp only [List.forall_mem_cons]
  refine ⟨fun o e => ?_, fun o e => ?_, fun o e => ?_, by simp⟩
  · rw [b0.1] at e; cases e; exact ⟨by simp, by simp⟩
  · rw [b1.1] at e; cases e; exact ⟨by simp, by simp⟩
  · rw [b2.1] at e; cases e; exact ⟨by simp, by simp⟩
noncomputable abbrev B4 (w : World) : List Stmt := foB ((B176 w).drop 4)
def TS (n : Str) (v : Value) : List (Str × Value) := [(n, v)]
def Pz4 (pz : List (Str × Value)) : Prop := pz = [] ∨ ∃ b c d, pz = ([("full", b), ("number", c), ("k", d)] : List (Str × Value))
def Pz3 (pz : List (Str × Value)) : Prop := pz = [] ∨ ∃ c d, pz = ([("number", c), ("k", d)] : List (Str × Value))
def Pz1 (pz : List (Str × Value)) : Prop := pz = [] ∨ ∃ d, pz = ([("k", d)] : List (Str × Value))
abbrev run3 (half ld : Nat) (u1 u2 : Tok) (Pi Dr fl : Addr) (v1 v2 a : Value) (pz : List (Str × Value)) : List (Str × Value) := run2 half ld u1 u2 Pi Dr fl v1 v2 ++ (([("turn", a)] : List (Str × Value)) ++ pz)
abbrev run4 (half ld : Nat) (u1 u2 : Tok) (Pi Dr fl : Addr) (v1 v2 a b : Value) (pz : List (Str × Value)) : List (Str × Value) := run2 half ld u1 u2 Pi Dr fl v1 v2 ++ (([("turn", a), ("full", b)] : List (Str × Value)) ++ pz)
abbrev run5 (half ld : Nat) (u1 u2 : Tok) (Pi Dr fl : Addr) (v1 v2 a b c : Value) (pz : List (Str × Value)) : List (Str × Value) := run2 half ld u1 u2 Pi Dr fl v1 v2 ++ (([("turn", a), ("full", b), ("number", c)] : List (Str × Value)) ++ pz)
abbrev run6 (half ld : Nat) (u1 u2 : Tok) (Pi Dr fl : Addr) (v1 v2 a b c d : Value) : List (Str × Value) := run2 half ld u1 u2 Pi Dr fl v1 v2 ++ ([("turn", a), ("full", b), ("number", c), ("k", d)] : List (Str × Value))
def fullK (rows : List (List Nat)) (n : Nat) : List Nat := (List.range' 0 n).filter (fun j => decide (1 < (rows.getD j []).length))
theorem body_a {E : Value → Shared → Prop} {Q : Flow → Shared → Prop} {F P fl Pi Dr : Addr} {H : Nat → Int} {K : Nat → Tok} {half ld en nP : Nat} {u1 u2 : Tok} {v1 v2 a : Value} {ps : List Addr} {fs : List Nat} {rows : List (List Nat)} {pz : List (Str × Value)}
    (hA : A.handled = none) (hd : A.depth + 100 < recursionLimit) (G : Gd w h) (hpz : Pz4 pz) (aF : At w h F (frL H K (run3 half ld u1 u2 Pi Dr fl v1 v2 a pz) en)) (aC : At w h (F + 2) (cellO (.ref P))) (aP : At w h P (lstO (ps.map .ref) nP)) (hps : ps.length ≤ 100) (pl : Pl w h ps fs rows)
    (k' : ∀ h' tk' ful nfu zs H' K' en' pz', Kp [F] h h' → Gd w h' → Pz3 pz' → At w h' F (frL H' K' (run4 half ld u1 u2 Pi Dr fl v1 v2 a (.ref ful) pz') en') → At w h' ful (lstX zs.toArray nfu) → NatsAre zs (fullK rows ps.length) → h.get? ful = none → wpAny (model pw w) A (execs ((B4 w).drop 1) (E176 w F)) Q E ⟨h', g, dr, tk', os⟩) :
    wpAny (model pw w) A (execs (B4 w) (E176 w F)) Q E ⟨h, g, dr, tk, os⟩ := by
  have xx : ∀ (h5 : Heap) (L : Addr), Kp [] h h5 → h.get? L = none → ∀ (j : Nat) (p : Addr), ps[j]? = some p → ∃ p0 d qs n s t1 fi t2, p = p0 + 182 ∧ At w h5 p (accO d qs n) ∧ At w h5 d (dctO s t1 fi t2) ∧ d ≠ L ∧ qs.length = (rows.getD j []).length := by
    intro h5 L K5 fL j p e
    have hj := (List.getElem?_eq_some_iff.mp e).1
    have hj1 : j < fs.length := by rw [pl.lenf, ← pl.len]; exact hj
    have hj2 : j < rows.length := by rw [← pl.len]; exact hj
    obtain ⟨p0, d, n, qs, s, t1, t2, e1, ap, ad, r⟩ := pl.acc j p _ _ e (List.getElem?_eq_getElem hj1) (List.getElem?_eq_getElem hj2)
    refine ⟨p0, d, qs, n, s, t1, _, t2, e1, ap.kp K5 (nin0 _), ad.kp K5 (nin0 _), Ne.symm (old_ne ad.1 fL), ?_⟩
    rw [r.length, List.length_map, List.getD_eq_getElem?_getD, List.getElem?_eq_getElem hj2]; rfl
  rcases hpz with rfl | ⟨vb, vc, vd, rfl⟩
  · skip
    obtain ⟨Z, D⟩ : ∃ Z, Rep (KTw w) h [F, F + 2, P] h [(F, frL H K (run3 half ld u1 u2 Pi Dr fl v1 v2 a []) en), (F + 2, cellO (.ref P)), (P, lstO (ps.map .ref) nP)] Z := Rep.initC (T := [(F, frL H K (run3 half ld u1 u2 Pi Dr fl v1 v2 a []) en), (F + 2, cellO (.ref P)), (P, lstO (ps.map .ref) nP)]) G (oc aF (oc aC (oc aP on))) (by kernel_rfl)
    refine atCut 1 ?_
    refine top_execs (R := fun _ _ => True) ?_
    intro θ
    refine eng 10 36893488147419103232 (by exact hA) D (by kernel_rfl) ?_
    intro χ1 h1 D1
    refine hook (c' := .call (.builtin "len") ⟨[.ref P], []⟩) (by kernel_rfl) ?_
    refine lenlst_spec (vs := ps.map Value.ref) (n := nP) (ac_handled hA) D1.gd (D1.at_ 2 (by kernel_rfl)) (by simp; omega) ?_
    intro h2 tk2 t2 K2
    rw [List.length_map]
    refine Exists.elim ((D1.same K2).ex) ?_
    intro Z2 D2
    refine eng 23 96155115723275105082016129848715507518023704233639936 (by exact hA) D2 (by kernel_rfl) ?_
    intro χ3 h3 D3
    refine eng2 "special-get-raises" 1 0 1 0 (by exact hA) D3 (by kernel_rfl) ?_
    intro χ4 h4 D4
    refine hook (c' := .call (.builtin "range.__iter__") ⟨[.ref (adrAt χ4.T 0)], []⟩) (by kernel_rfl) ?_
    refine riter_spec (n := ps.length) (t := fdT (objAt χ4.T 0) 0) (u := t2) (v := fdT (objAt χ4.T 0) 2) D4.gd (D4.at_ (a := adrAt χ4.T 0) (o := rgO 0 (ps.length : Nat) (fdT (objAt χ4.T 0) 0) t2 (fdT (objAt χ4.T 0) 2)) 0 (by kernel_rfl)) (by omega) ?_
    intro h9 it K9 aI fI
    refine Exists.elim ((D4.plus K9 aI fI).ex) ?_
    intro Z9 D9
    refine eng 4 1 (by exact hA) D9 (by kernel_rfl) ?_
    intro χ10 h10 D10
    refine hook (c' := .compStart (fuE (lcI (asV (B4 w)))) 0 (.ref it) (.ref (adrAt χ10.T 1)) (cEnvAt fuS (adrAt χ10.T 0) [("places", F + 2)] (fdOf (slook (KTw w) 176)) F)) (by kernel_rfl) ?_
    have K5 : Kp [] h h10 := Rep.kpF 4 [true, true, true] D D10 (by kernel_rfl)
    have q0 := D10.at_ (a := adrAt χ10.T 0) (o := nsO #[] 0) 0 (by kernel_rfl)
    have q1 := D10.at_ (a := adrAt χ10.T 1) (o := lstX #[] 0) 1 (by kernel_rfl)
    have q2 := D10.at_ (a := it) (o := riO 0 (ps.length : Nat)) 2 (by kernel_rfl)
    have q5 := D10.at_ (a := F + 2) (o := cellO (.ref P)) 5 (by kernel_rfl)
    have q6 := D10.at_ (a := P) (o := lstO (ps.map .ref) nP) 6 (by kernel_rfl)
    have fL := D10.fresh_ (a := adrAt χ10.T 0) (o := nsO #[] 0) 0 (by kernel_rfl) (nin3 (D10.apart (a := adrAt χ10.T 0) (o := nsO #[] 0) (b := F) (o' := objAt χ10.T 4) 0 4 (by kernel_rfl)) (D10.apart (a := adrAt χ10.T 0) (o := nsO #[] 0) (b := F + 2) (o' := objAt χ10.T 5) 0 5 (by kernel_rfl)) (D10.apart (a := adrAt χ10.T 0) (o := nsO #[] 0) (b := P) (o' := objAt χ10.T 6) 0 6 (by kernel_rfl)))
    have fA := D10.fresh_ (a := adrAt χ10.T 1) (o := lstX #[] 0) 1 (by kernel_rfl) (nin3 (D10.apart (a := adrAt χ10.T 1) (o := lstX #[] 0) (b := F) (o' := objAt χ10.T 4) 1 4 (by kernel_rfl)) (D10.apart (a := adrAt χ10.T 1) (o := lstX #[] 0) (b := F + 2) (o' := objAt χ10.T 5) 1 5 (by kernel_rfl)) (D10.apart (a := adrAt χ10.T 1) (o := lstX #[] 0) (b := P) (o' := objAt χ10.T 6) 1 6 (by kernel_rfl)))
    refine comp_fu (ps := ps) (nP := nP) (rows := rows) (ac_handled hA) (depL (b := A.depth) 0 (by kernel_rfl) hd rfl) hps ps.length rfl ps.length (by omega) (Nat.zero_add _) D10.gd q0 q1 q2 q5 q6 (D10.apart (a := P) (o := lstO (ps.map .ref) nP) (b := adrAt χ10.T 1) (o' := lstX #[] 0) 6 1 (by kernel_rfl)) (xx _ _ K5 fL) ?_
    intro h16 tk16 es16 en16 na16 zs K16 G16 o16 c0 hz c1
    obtain ⟨oi, hoi⟩ := K16.1 _ _ q2.1
    refine Exists.elim (D10.turnM [(0, adrAt χ10.T 0, nsO es16 en16), (1, adrAt χ10.T 1, lstX zs.toArray na16), (2, it, oi)] K16 (by kernel_rfl) (by kernel_rfl) rfl (all3m c0.1 c1.1 hoi)) ?_
    intro Z16 D16
    rcases o16 with rfl | ⟨x16, y16, v16, rfl⟩
    · skip
      refine eng 9 18448156946151243776 (by exact hA) D16 (by kernel_rfl) ?_
      intro χ17 h17 D17
      refine finQ (f := .done .next) (by kernel_rfl) ?_
      have K18 : Kp [F] h h17 := Rep.kpF 4 [false, true, true] D D17 (by kernel_rfl)
      have bF := D17.at_ (a := F) (o := frL (eHi (objAt χ17.T 4)) (eKi (objAt χ17.T 4)) (run4 half ld u1 u2 Pi Dr fl v1 v2 a (.ref (adrAt χ10.T 1)) []) (eNd (objAt χ17.T 4))) 4 (by kernel_rfl)
      exact k' h17 _ _ na16 zs _ _ _ [] K18 D17.gd (.inl rfl) bF (D17.at_ (a := adrAt χ10.T 1) (o := lstX zs.toArray na16) 1 (by kernel_rfl)) hz fA
    · skip
      refine eng 13 310693954089116644050731008 (by exact hA) D16 (by kernel_rfl) ?_
      intro χ17 h17 D17
      refine finQ (f := .done .next) (by kernel_rfl) ?_
      have K18 : Kp [F] h h17 := Rep.kpF 4 [false, true, true] D D17 (by kernel_rfl)
      have bF := D17.at_ (a := F) (o := frL (eHi (objAt χ17.T 4)) (eKi (objAt χ17.T 4)) (run4 half ld u1 u2 Pi Dr fl v1 v2 a (.ref (adrAt χ10.T 1)) []) (eNd (objAt χ17.T 4))) 4 (by kernel_rfl)
      exact k' h17 _ _ na16 zs _ _ _ [] K18 D17.gd (.inl rfl) bF (D17.at_ (a := adrAt χ10.T 1) (o := lstX zs.toArray na16) 1 (by kernel_rfl)) hz fA
  · skip
    obtain ⟨Z, D⟩ : ∃ Z, Rep (KTw w) h [F, F + 2, P] h [(F, frL H K (run3 half ld u1 u2 Pi Dr fl v1 v2 a ([("full", vb), ("number", vc), ("k", vd)] : List (Str × Value))) en), (F + 2, cellO (.ref P)), (P, lstO (ps.map .ref) nP)] Z := Rep.initC (T := [(F, frL H K (run3 half ld u1 u2 Pi Dr fl v1 v2 a ([("full", vb), ("number", vc), ("k", vd)] : List (Str × Value))) en), (F + 2, cellO (.ref P)), (P, lstO (ps.map .ref) nP)]) G (oc aF (oc aC (oc aP on))) (by kernel_rfl)
    refine atCut 1 ?_
    refine top_execs (R := fun _ _ => True) ?_
    intro θ
    refine eng 10 36893488147419103232 (by exact hA) D (by kernel_rfl) ?_
    intro χ1 h1 D1
    refine hook (c' := .call (.builtin "len") ⟨[.ref P], []⟩) (by kernel_rfl) ?_
    refine lenlst_spec (vs := ps.map Value.ref) (n := nP) (ac_handled hA) D1.gd (D1.at_ 2 (by kernel_rfl)) (by simp; omega) ?_
    intro h2 tk2 t2 K2
    rw [List.length_map]
    refine Exists.elim ((D1.same K2).ex) ?_
    intro Z2 D2
    refine eng 23 96155115723275105082016129848715507518023704233639936 (by exact hA) D2 (by kernel_rfl) ?_
    intro χ3 h3 D3
    refine eng2 "special-get-raises" 1 0 1 0 (by exact hA) D3 (by kernel_rfl) ?_
    intro χ4 h4 D4
    refine hook (c' := .call (.builtin "range.__iter__") ⟨[.ref (adrAt χ4.T 0)], []⟩) (by kernel_rfl) ?_
    refine riter_spec (n := ps.length) (t := fdT (objAt χ4.T 0) 0) (u := t2) (v := fdT (objAt χ4.T 0) 2) D4.gd (D4.at_ (a := adrAt χ4.T 0) (o := rgO 0 (ps.length : Nat) (fdT (objAt χ4.T 0) 0) t2 (fdT (objAt χ4.T 0) 2)) 0 (by kernel_rfl)) (by omega) ?_
    intro h9 it K9 aI fI
    refine Exists.elim ((D4.plus K9 aI fI).ex) ?_
    intro Z9 D9
    refine eng 4 1 (by exact hA) D9 (by kernel_rfl) ?_
    intro χ10 h10 D10
    refine hook (c' := .compStart (fuE (lcI (asV (B4 w)))) 0 (.ref it) (.ref (adrAt χ10.T 1)) (cEnvAt fuS (adrAt χ10.T 0) [("places", F + 2)] (fdOf (slook (KTw w) 176)) F)) (by kernel_rfl) ?_
    have K5 : Kp [] h h10 := Rep.kpF 4 [true, true, true] D D10 (by kernel_rfl)
    have q0 := D10.at_ (a := adrAt χ10.T 0) (o := nsO #[] 0) 0 (by kernel_rfl)
    have q1 := D10.at_ (a := adrAt χ10.T 1) (o := lstX #[] 0) 1 (by kernel_rfl)
    have q2 := D10.at_ (a := it) (o := riO 0 (ps.length : Nat)) 2 (by kernel_rfl)
    have q5 := D10.at_ (a := F + 2) (o := cellO (.ref P)) 5 (by kernel_rfl)
    have q6 := D10.at_ (a := P) (o := lstO (ps.map .ref) nP) 6 (by kernel_rfl)
    have fL := D10.fresh_ (a := adrAt χ10.T 0) (o := nsO #[] 0) 0 (by kernel_rfl) (nin3 (D10.apart (a := adrAt χ10.T 0) (o := nsO #[] 0) (b := F) (o' := objAt χ10.T 4) 0 4 (by kernel_rfl)) (D10.apart (a := adrAt χ10.T 0) (o := nsO #[] 0) (b := F + 2) (o' := objAt χ10.T 5) 0 5 (by kernel_rfl)) (D10.apart (a := adrAt χ10.T 0) (o := nsO #[] 0) (b := P) (o' := objAt χ10.T 6) 0 6 (by kernel_rfl)))
    have fA := D10.fresh_ (a := adrAt χ10.T 1) (o := lstX #[] 0) 1 (by kernel_rfl) (nin3 (D10.apart (a := adrAt χ10.T 1) (o := lstX #[] 0) (b := F) (o' := objAt χ10.T 4) 1 4 (by kernel_rfl)) (D10.apart (a := adrAt χ10.T 1) (o := lstX #[] 0) (b := F + 2) (o' := objAt χ10.T 5) 1 5 (by kernel_rfl)) (D10.apart (a := adrAt χ10.T 1) (o := lstX #[] 0) (b := P) (o' := objAt χ10.T 6) 1 6 (by kernel_rfl)))
    refine comp_fu (ps := ps) (nP := nP) (rows := rows) (ac_handled hA) (depL (b := A.depth) 0 (by kernel_rfl) hd rfl) hps ps.length rfl ps.length (by omega) (Nat.zero_add _) D10.gd q0 q1 q2 q5 q6 (D10.apart (a := P) (o := lstO (ps.map .ref) nP) (b := adrAt χ10.T 1) (o' := lstX #[] 0) 6 1 (by kernel_rfl)) (xx _ _ K5 fL) ?_
    intro h16 tk16 es16 en16 na16 zs K16 G16 o16 c0 hz c1
    obtain ⟨oi, hoi⟩ := K16.1 _ _ q2.1
    refine Exists.elim (D10.turnM [(0, adrAt χ10.T 0, nsO es16 en16), (1, adrAt χ10.T 1, lstX zs.toArray na16), (2, it, oi)] K16 (by kernel_rfl) (by kernel_rfl) rfl (all3m c0.1 c1.1 hoi)) ?_
    intro Z16 D16
    rcases o16 with rfl | ⟨x16, y16, v16, rfl⟩
    · skip
      refine eng 9 18448156946151243776 (by exact hA) D16 (by kernel_rfl) ?_
      intro χ17 h17 D17
      refine finQ (f := .done .next) (by kernel_rfl) ?_
      have K18 : Kp [F] h h17 := Rep.kpF 4 [false, true, true] D D17 (by kernel_rfl)
      have bF := D17.at_ (a := F) (o := frL (eHi (objAt χ17.T 4)) (eKi (objAt χ17.T 4)) (run4 half ld u1 u2 Pi Dr fl v1 v2 a (.ref (adrAt χ10.T 1)) ([("number", vc), ("k", vd)] : List (Str × Value))) (eNd (objAt χ17.T 4))) 4 (by kernel_rfl)
      exact k' h17 _ _ na16 zs _ _ _ ([("number", vc), ("k", vd)] : List (Str × Value)) K18 D17.gd (.inr ⟨_, _, rfl⟩) bF (D17.at_ (a := adrAt χ10.T 1) (o := lstX zs.toArray na16) 1 (by kernel_rfl)) hz fA
    · skip
      refine eng 13 310693954089116644050731008 (by exact hA) D16 (by kernel_rfl) ?_
      intro χ17 h17 D17
      refine finQ (f := .done .next) (by kernel_rfl) ?_
      have K18 : Kp [F] h h17 := Rep.kpF 4 [false, true, true] D D17 (by kernel_rfl)
      have bF := D17.at_ (a := F) (o := frL (eHi (objAt χ17.T 4)) (eKi (objAt χ17.T 4)) (run4 half ld u1 u2 Pi Dr fl v1 v2 a (.ref (adrAt χ10.T 1)) ([("number", vc), ("k", vd)] : List (Str × Value))) (eNd (objAt χ17.T 4))) 4 (by kernel_rfl)
      exact k' h17 _ _ na16 zs _ _ _ ([("number", vc), ("k", vd)] : List (Str × Value)) K18 D17.gd (.inr ⟨_, _, rfl⟩) bF (D17.at_ (a := adrAt χ10.T 1) (o := lstX zs.toArray na16) 1 (by kernel_rfl)) hz fA
theorem NatsAre.ne {vs : List Value} {ns : List Nat} (x : NatsAre vs ns) (h : ns ≠ []) : vs ≠ [] := by
  cases x with
  | nil => exact absurd rfl h
  | cons n t x => simp
theorem body_b {E : Value → Shared → Prop} {Q : Flow → Shared → Prop} {F fl Pi Dr ful : Addr} {H : Nat → Int} {K : Nat → Tok} {half ld en nfu : Nat} {u1 u2 : Tok} {v1 v2 a : Value} {pz : List (Str × Value)} {zs : List Value}
    (hA : A.handled = none) (hu : A.units + 300 < cLine) (G : Gd w h) (hpz : Pz3 pz) (aF : At w h F (frL H K (run4 half ld u1 u2 Pi Dr fl v1 v2 a (.ref ful) pz) en)) (af : At w h ful (lstX zs.toArray nfu)) (hne : zs ≠ [])
    (k' : ∀ h' tk', Kp [] h h' → Gd w h' → wpAny (model pw w) A (execs ((B4 w).drop 2) (E176 w F)) Q E ⟨h', g, dr, tk', os⟩) :
    wpAny (model pw w) A (execs ((B4 w).drop 1) (E176 w F)) Q E ⟨h, g, dr, tk, os⟩ := by
  have fin : ∀ h2 tk2 (e : Addr), Kp [] h h2 → Gd w h2 → At w h2 e (lstX #[] 0) → wpAny (model pw w) A (compareOp .Eq (.ref ful) (.ref e)) (fun c s₃ => wpAny (model pw w) A (truthy c) (fun v s' => wpAny (model pw w) A (execs (if v then ifB ((B4 w).drop 1) else ifO ((B4 w).drop 1)) (E176 w F)) (fun f s'' => match f with | .next => wpAny (model pw w) A (execs ((B4 w).drop 1).tail (E176 w F)) Q E s'' | f => Q f s'') E s') E s₃) E ⟨h2, g, dr, tk2, os⟩ := by
    intro h2 tk2 e K2 G2 ae
    refine eq_list_lengthsAt (items := zs.toArray) (items2 := #[]) ⟨_, (af.kp K2 (nin0 _)).1, rfl, nfu, rfl⟩ ⟨_, ae.1, rfl, 0, rfl⟩ ?_ (by omega) ?_
    · rw [bne_iff_ne]
      intro z
      exact hne (List.eq_nil_of_length_eq_zero (by simpa using z))
    · refine wpAny_truthy_bool ?_
      exact wpAny_pure (k' h2 tk2 K2 G2)
  refine atIf (by kernel_rfl) ?_
  refine atCmpT (by kernel_rfl) (by kernel_rfl) ?_
  rcases hpz with rfl | ⟨vc, vd, rfl⟩
  · skip
    obtain ⟨Z, D⟩ : ∃ Z, Rep (KTw w) h [F] h [(F, frL H K (run4 half ld u1 u2 Pi Dr fl v1 v2 a (.ref ful) []) en)] Z := Rep.initC (T := [(F, frL H K (run4 half ld u1 u2 Pi Dr fl v1 v2 a (.ref ful) []) en)]) G (oc aF on) (by kernel_rfl)
    refine top_eval (R := fun _ _ => True) ?_
    intro θ
    refine eng 2 256 (by exact hA) D (by kernel_rfl) ?_
    intro χ1 h1 D1
    refine finQ (f := .done (.ret (.ref ful))) (by kernel_rfl) ?_
    refine top_eval (R := fun _ _ => True) ?_
    intro θ
    refine eng 2 0 (by exact hA) D1 (by kernel_rfl) ?_
    intro χ2 h2 D2
    refine finQ (f := .done (.ret (.ref (adrAt χ2.T 0)))) (by kernel_rfl) ?_
    have K2 : Kp [] h h2 := Rep.kpF 1 [true] D D2 (by kernel_rfl)
    exact fin h2 _ _ K2 D2.gd (D2.at_ (a := adrAt χ2.T 0) (o := lstX #[] 0) 0 (by kernel_rfl))
  · skip
    obtain ⟨Z, D⟩ : ∃ Z, Rep (KTw w) h [F] h [(F, frL H K (run4 half ld u1 u2 Pi Dr fl v1 v2 a (.ref ful) ([("number", vc), ("k", vd)] : List (Str × Value))) en)] Z := Rep.initC (T := [(F, frL H K (run4 half ld u1 u2 Pi Dr fl v1 v2 a (.ref ful) ([("number", vc), ("k", vd)] : List (Str × Value))) en)]) G (oc aF on) (by kernel_rfl)
    refine top_eval (R := fun _ _ => True) ?_
    intro θ
    refine eng 2 256 (by exact hA) D (by kernel_rfl) ?_
    intro χ1 h1 D1
    refine finQ (f := .done (.ret (.ref ful))) (by kernel_rfl) ?_
    refine top_eval (R := fun _ _ => True) ?_
    intro θ
    refine eng 2 0 (by exact hA) D1 (by kernel_rfl) ?_
    intro χ2 h2 D2
    refine finQ (f := .done (.ret (.ref (adrAt χ2.T 0)))) (by kernel_rfl) ?_
    have K2 : Kp [] h h2 := Rep.kpF 1 [true] D D2 (by kernel_rfl)
    exact fin h2 _ _ K2 D2.gd (D2.at_ (a := adrAt χ2.T 0) (o := lstX #[] 0) 0 (by kernel_rfl))
theorem body_c {E : Value → Shared → Prop} {Q : Flow → Shared → Prop} {F fl Pi Dr : Addr} {H : Nat → Int} {K : Nat → Tok} {half ld en nD t x : Nat} {u1 u2 ut : Tok} {v1 v2 b : Value} {pz : List (Str × Value)} {dvs : List Value} {dns : List Nat}
    (hA : A.handled = none) (G : Gd w h) (hpz : Pz3 pz) (aF : At w h F (frL H K (run4 half ld u1 u2 Pi Dr fl v1 v2 (.int (t : Nat) ut) b pz) en)) (aD : At w h Dr (lstX dvs.toArray nD)) (hD : NatsAre dvs dns) (hl : dvs.length ≤ 100) (h0 : 0 < dvs.length) (hx : dns[t % dvs.length]? = some x) (ht : t < 1000)
    (k' : ∀ h' tk' H' K' en' pz' un, Kp [F] h h' → Gd w h' → Pz1 pz' → At w h' F (frL H' K' (run5 half ld u1 u2 Pi Dr fl v1 v2 (.int (t : Nat) ut) b (.int ((x / (t + 1) : Nat) : Int) un) pz') en') → wpAny (model pw w) A (execs ((B4 w).drop 3) (E176 w F)) Q E ⟨h', g, dr, tk', os⟩) :
    wpAny (model pw w) A (execs ((B4 w).drop 2) (E176 w F)) Q E ⟨h, g, dr, tk, os⟩ := by
  obtain ⟨tx, hv⟩ := hD.get hx
  rcases hpz with rfl | ⟨vc, vd, rfl⟩
  · skip
    obtain ⟨Z, D⟩ : ∃ Z, Rep (KTw w) h [F, Dr] h [(F, frL H K (run4 half ld u1 u2 Pi Dr fl v1 v2 (.int (t : Nat) ut) b []) en), (Dr, lstX dvs.toArray nD)] Z := Rep.initC (T := [(F, frL H K (run4 half ld u1 u2 Pi Dr fl v1 v2 (.int (t : Nat) ut) b []) en), (Dr, lstX dvs.toArray nD)]) G (oc aF (oc aD on)) (by kernel_rfl)
    refine atCut 1 ?_
    refine top_execs (R := fun _ _ => True) ?_
    intro θ
    refine eng 11 4722366482873940246528 (by exact hA) D (by kernel_rfl) ?_
    intro χ1 h1 D1
    refine hook (c' := .call (.builtin "len") ⟨[.ref Dr], []⟩) (by kernel_rfl) ?_
    refine lenlst_spec (vs := dvs) (n := nD) (ac_handled hA) D1.gd (D1.at_ 1 (by kernel_rfl)) (by omega) ?_
    intro h2 tk2 t2 K2
    refine Exists.elim ((D1.same K2).ex) ?_
    intro Z2 D2
    refine eng 2 0 (by exact hA) D2 (by kernel_rfl) ?_
    intro χ3 h3 D3
    refine hook2 (fun u v => .call (.builtin "int.__mod__") ⟨[.int (t : Nat) u, .int (dvs.length : Nat) v], []⟩) (by kernel_rfl) ?_
    intro x4 y4
    refine mod_spec t dvs.length rfl rfl h0 (by omega) ?_
    intro tk5 v5
    refine eng 4 33686016 (by exact hA) D3 (by kernel_rfl) ?_
    intro χ6 h6 D6
    refine hook2 (fun u v => .call (.builtin "list.__getitem__") ⟨[.ref Dr, .int ((t % dvs.length : Nat) : Int) v], []⟩) (by kernel_rfl) ?_
    intro x7 y7
    refine getitem_spec (v := .int (x : Nat) tx) (vs := dvs) (n := nD) (D6.at_ (a := Dr) (o := lstX dvs.toArray nD) 1 (by kernel_rfl)).1 hv (by omega) ?_
    refine eng 9 256 (by exact hA) D6 (by kernel_rfl) ?_
    intro χ8 h8 D8
    refine hook2 (fun u v => .call (.builtin "int.__floordiv__") ⟨[.int (x : Nat) u, .int ((t : Nat) + 1) v], []⟩) (by kernel_rfl) ?_
    intro x9 y9
    refine floordiv_spec x (t + 1) rfl (by push_cast; rfl) (by omega) (by omega) ?_
    intro tk10 v10
    refine eng 7 1103806595072 (by exact hA) D8 (by kernel_rfl) ?_
    intro χ11 h11 D11
    refine finQ (f := .done .next) (by kernel_rfl) ?_
    have K12 : Kp [F] h h11 := Rep.kpF 0 [false, true] D D11 (by kernel_rfl)
    exact k' h11 _ (eHi (objAt χ11.T 0)) (eKi (objAt χ11.T 0)) (eNd (objAt χ11.T 0)) [] v10 K12 D11.gd (.inl rfl) (D11.at_ 0 (by kernel_rfl))
  · skip
    obtain ⟨Z, D⟩ : ∃ Z, Rep (KTw w) h [F, Dr] h [(F, frL H K (run4 half ld u1 u2 Pi Dr fl v1 v2 (.int (t : Nat) ut) b ([("number", vc), ("k", vd)] : List (Str × Value))) en), (Dr, lstX dvs.toArray nD)] Z := Rep.initC (T := [(F, frL H K (run4 half ld u1 u2 Pi Dr fl v1 v2 (.int (t : Nat) ut) b ([("number", vc), ("k", vd)] : List (Str × Value))) en), (Dr, lstX dvs.toArray nD)]) G (oc aF (oc aD on)) (by kernel_rfl)
    refine atCut 1 ?_
    refine top_execs (R := fun _ _ => True) ?_
    intro θ
    refine eng 11 4722366482873940246528 (by exact hA) D (by kernel_rfl) ?_
    intro χ1 h1 D1
    refine hook (c' := .call (.builtin "len") ⟨[.ref Dr], []⟩) (by kernel_rfl) ?_
    refine lenlst_spec (vs := dvs) (n := nD) (ac_handled hA) D1.gd (D1.at_ 1 (by kernel_rfl)) (by omega) ?_
    intro h2 tk2 t2 K2
    refine Exists.elim ((D1.same K2).ex) ?_
    intro Z2 D2
    refine eng 2 0 (by exact hA) D2 (by kernel_rfl) ?_
    intro χ3 h3 D3
    refine hook2 (fun u v => .call (.builtin "int.__mod__") ⟨[.int (t : Nat) u, .int (dvs.length : Nat) v], []⟩) (by kernel_rfl) ?_
    intro x4 y4
    refine mod_spec t dvs.length rfl rfl h0 (by omega) ?_
    intro tk5 v5
    refine eng 4 33686016 (by exact hA) D3 (by kernel_rfl) ?_
    intro χ6 h6 D6
    refine hook2 (fun u v => .call (.builtin "list.__getitem__") ⟨[.ref Dr, .int ((t % dvs.length : Nat) : Int) v], []⟩) (by kernel_rfl) ?_
    intro x7 y7
    refine getitem_spec (v := .int (x : Nat) tx) (vs := dvs) (n := nD) (D6.at_ (a := Dr) (o := lstX dvs.toArray nD) 1 (by kernel_rfl)).1 hv (by omega) ?_
    refine eng 9 256 (by exact hA) D6 (by kernel_rfl) ?_
    intro χ8 h8 D8
    refine hook2 (fun u v => .call (.builtin "int.__floordiv__") ⟨[.int (x : Nat) u, .int ((t : Nat) + 1) v], []⟩) (by kernel_rfl) ?_
    intro x9 y9
    refine floordiv_spec x (t + 1) rfl (by push_cast; rfl) (by omega) (by omega) ?_
    intro tk10 v10
    refine eng 7 1103806595072 (by exact hA) D8 (by kernel_rfl) ?_
    intro χ11 h11 D11
    refine finQ (f := .done .next) (by kernel_rfl) ?_
    have K12 : Kp [F] h h11 := Rep.kpF 0 [false, true] D D11 (by kernel_rfl)
    exact k' h11 _ (eHi (objAt χ11.T 0)) (eKi (objAt χ11.T 0)) (eNd (objAt χ11.T 0)) ([("k", vd)] : List (Str × Value)) v10 K12 D11.gd (.inr ⟨_, rfl⟩) (D11.at_ 0 (by kernel_rfl))
theorem body_d {E : Value → Shared → Prop} {Q : Flow → Shared → Prop} {F fl Pi Dr ful : Addr} {H : Nat → Int} {K : Nat → Tok} {half ld en nfu nu kk : Nat} {u1 u2 un : Tok} {v1 v2 a : Value} {pz : List (Str × Value)} {zs : List Value} {ks : List Nat}
    (hA : A.handled = none) (G : Gd w h) (hpz : Pz1 pz) (aF : At w h F (frL H K (run5 half ld u1 u2 Pi Dr fl v1 v2 a (.ref ful) (.int (nu : Nat) un) pz) en)) (af : At w h ful (lstX zs.toArray nfu)) (hz : NatsAre zs ks) (hl : zs.length ≤ 100) (h0 : 0 < zs.length) (hk : ks[nu % zs.length]? = some kk)
    (k' : ∀ h' tk' H' K' en' uk, Kp [F] h h' → Gd w h' → At w h' F (frL H' K' (run6 half ld u1 u2 Pi Dr fl v1 v2 a (.ref ful) (.int (nu : Nat) un) (.int (kk : Nat) uk)) en') → wpAny (model pw w) A (execs ((B4 w).drop 4) (E176 w F)) Q E ⟨h', g, dr, tk', os⟩) :
    wpAny (model pw w) A (execs ((B4 w).drop 3) (E176 w F)) Q E ⟨h, g, dr, tk, os⟩ := by
  obtain ⟨tx, hv⟩ := hz.get hk
  rcases hpz with rfl | ⟨vd, rfl⟩
  · skip
    obtain ⟨Z, D⟩ : ∃ Z, Rep (KTw w) h [F, ful] h [(F, frL H K (run5 half ld u1 u2 Pi Dr fl v1 v2 a (.ref ful) (.int (nu : Nat) un) []) en), (ful, lstX zs.toArray nfu)] Z := Rep.initC (T := [(F, frL H K (run5 half ld u1 u2 Pi Dr fl v1 v2 a (.ref ful) (.int (nu : Nat) un) []) en), (ful, lstX zs.toArray nfu)]) G (oc aF (oc af on)) (by kernel_rfl)
    refine atCut 1 ?_
    refine top_execs (R := fun _ _ => True) ?_
    intro θ
    refine eng 11 4722366482873940246528 (by exact hA) D (by kernel_rfl) ?_
    intro χ1 h1 D1
    refine hook (c' := .call (.builtin "len") ⟨[.ref ful], []⟩) (by kernel_rfl) ?_
    refine lenlst_spec (vs := zs) (n := nfu) (ac_handled hA) D1.gd (D1.at_ 1 (by kernel_rfl)) (by omega) ?_
    intro h2 tk2 t2 K2
    refine Exists.elim ((D1.same K2).ex) ?_
    intro Z2 D2
    refine eng 2 0 (by exact hA) D2 (by kernel_rfl) ?_
    intro χ3 h3 D3
    refine hook2 (fun u v => .call (.builtin "int.__mod__") ⟨[.int (nu : Nat) u, .int (zs.length : Nat) v], []⟩) (by kernel_rfl) ?_
    intro x4 y4
    refine mod_spec nu zs.length rfl rfl h0 (by omega) ?_
    intro tk5 v5
    refine eng 4 33686016 (by exact hA) D3 (by kernel_rfl) ?_
    intro χ6 h6 D6
    refine hook2 (fun u v => .call (.builtin "list.__getitem__") ⟨[.ref ful, .int ((nu % zs.length : Nat) : Int) v], []⟩) (by kernel_rfl) ?_
    intro x7 y7
    refine getitem_spec (v := .int (kk : Nat) tx) (vs := zs) (n := nfu) (D6.at_ (a := ful) (o := lstX zs.toArray nfu) 1 (by kernel_rfl)).1 hv (by omega) ?_
    refine eng 7 1103806595072 (by exact hA) D6 (by kernel_rfl) ?_
    intro χ8 h8 D8
    refine finQ (f := .done .next) (by kernel_rfl) ?_
    have K12 : Kp [F] h h8 := Rep.kpF 0 [false, true] D D8 (by kernel_rfl)
    exact k' h8 _ (eHi (objAt χ8.T 0)) (eKi (objAt χ8.T 0)) (eNd (objAt χ8.T 0)) tx K12 D8.gd (D8.at_ 0 (by kernel_rfl))
  · skip
    obtain ⟨Z, D⟩ : ∃ Z, Rep (KTw w) h [F, ful] h [(F, frL H K (run5 half ld u1 u2 Pi Dr fl v1 v2 a (.ref ful) (.int (nu : Nat) un) ([("k", vd)] : List (Str × Value))) en), (ful, lstX zs.toArray nfu)] Z := Rep.initC (T := [(F, frL H K (run5 half ld u1 u2 Pi Dr fl v1 v2 a (.ref ful) (.int (nu : Nat) un) ([("k", vd)] : List (Str × Value))) en), (ful, lstX zs.toArray nfu)]) G (oc aF (oc af on)) (by kernel_rfl)
    refine atCut 1 ?_
    refine top_execs (R := fun _ _ => True) ?_
    intro θ
    refine eng 11 4722366482873940246528 (by exact hA) D (by kernel_rfl) ?_
    intro χ1 h1 D1
    refine hook (c' := .call (.builtin "len") ⟨[.ref ful], []⟩) (by kernel_rfl) ?_
    refine lenlst_spec (vs := zs) (n := nfu) (ac_handled hA) D1.gd (D1.at_ 1 (by kernel_rfl)) (by omega) ?_
    intro h2 tk2 t2 K2
    refine Exists.elim ((D1.same K2).ex) ?_
    intro Z2 D2
    refine eng 2 0 (by exact hA) D2 (by kernel_rfl) ?_
    intro χ3 h3 D3
    refine hook2 (fun u v => .call (.builtin "int.__mod__") ⟨[.int (nu : Nat) u, .int (zs.length : Nat) v], []⟩) (by kernel_rfl) ?_
    intro x4 y4
    refine mod_spec nu zs.length rfl rfl h0 (by omega) ?_
    intro tk5 v5
    refine eng 4 33686016 (by exact hA) D3 (by kernel_rfl) ?_
    intro χ6 h6 D6
    refine hook2 (fun u v => .call (.builtin "list.__getitem__") ⟨[.ref ful, .int ((nu % zs.length : Nat) : Int) v], []⟩) (by kernel_rfl) ?_
    intro x7 y7
    refine getitem_spec (v := .int (kk : Nat) tx) (vs := zs) (n := nfu) (D6.at_ (a := ful) (o := lstX zs.toArray nfu) 1 (by kernel_rfl)).1 hv (by omega) ?_
    refine eng 7 1103806595072 (by exact hA) D6 (by kernel_rfl) ?_
    intro χ8 h8 D8
    refine finQ (f := .done .next) (by kernel_rfl) ?_
    have K12 : Kp [F] h h8 := Rep.kpF 0 [false, true] D D8 (by kernel_rfl)
    exact k' h8 _ (eHi (objAt χ8.T 0)) (eKi (objAt χ8.T 0)) (eNd (objAt χ8.T 0)) tx K12 D8.gd (D8.at_ 0 (by kernel_rfl))
theorem ltI_spec {prog : Program} {x y : Int} {t u : Tok} (b : Bool) (hb : decide (x < y) = b) (k : ∀ tk', R (.ok (.ret (.bool b))) ⟨h, g, dr, tk', os⟩) :
    codeAny (model prog w) A (.call (.builtin "int.__lt__") ⟨[.int x t, .int y u], []⟩) R ⟨h, g, dr, tk, os⟩ := by
  subst hb
  refine hk_gives F.slot_int_lt (typeIs_int _ _ _) F.entry_int_lt (F.args_int_lt_2 _ _) (AutoIntG1.int___lt___int_int_0 _ t _ u) ?_
  exact k _
theorem nd6f {a b c p q r : Addr} (h12 : a ≠ b) (h13 : a ≠ c) (h23 : b ≠ c) (hp : p ∉ [a, b, c]) (hq : q ∉ [a, b, c]) (hr : r ∉ [a, b, c]) (n1 : p ≠ q) (n2 : p ≠ r) (n3 : q ≠ r) : [a, b, c, p, q, r].Nodup := by
  simp only [List.mem_cons, List.not_mem_nil, or_false, not_or] at hp hq hr
  simp only [List.nodup_cons, List.mem_cons, List.not_mem_nil, or_false, not_or, not_false_eq_true, List.nodup_nil, and_true]
  exact ⟨⟨h12, h13, Ne.symm hp.1, Ne.symm hq.1, Ne.symm hr.1⟩, ⟨h23, Ne.symm hp.2.1, Ne.symm hq.2.1, Ne.symm hr.2.1⟩, ⟨Ne.symm hp.2.2, Ne.symm hq.2.2, Ne.symm hr.2.2⟩, ⟨n1, n2⟩, n3⟩
theorem body_e {E : Value → Shared → Prop} {Q : Flow → Shared → Prop} {F P fl Pi Dr Tb p0 p1 p2 : Addr} {H : Nat → Int} {K : Nat → Tok} {half ld en nP nT nu m i j a b : Nat} {u1 u2 un uk : Tok} {v1 v2 va vb : Value} {ps tqs : List Addr} {f0 f1 f2 : Int} {r0 r1 r2 : List Nat}
    (hA : A.handled = none) (hd : A.depth + 250 < recursionLimit) (hu : A.units + 450 < cLine) (G : Gd w h) (aF : At w h F (frL H K (run6 half ld u1 u2 Pi Dr fl v1 v2 va vb (.int (nu : Nat) un) (.int (m + 1 : Nat) uk)) en)) (aC1 : At w h (F + 1) (cellO (.ref Tb))) (aC2 : At w h (F + 2) (cellO (.ref P))) (aP : At w h P (lstO (ps.map .ref) nP)) (aT : At w h Tb (lstO (tqs.map .ref) nT)) (rT : Row w h tqs pcs)
    (x0 : Acc w h p0 f0 (r0.map pc)) (x1 : Acc w h p1 f1 (r1.map pc)) (x2 : Acc w h p2 f2 (r2.map pc)) (n01 : p0 ≠ p1) (n02 : p0 ≠ p2) (n12 : p1 ≠ p2)
    (e0 : ps[m]? = some p0) (e1 : ps[m + 1]? = some p1) (e2 : ps[m + 2]? = some p2) (hps : ps.length ≤ 100) (hr0 : r0.length ≤ 8) (hr1 : r1.length ≤ 8) (hr2 : r2.length ≤ 8) (h8 : ∀ x ∈ r1, x < 8) (hr : 2 ≤ r1.length) (hnu : nu < 2 ^ 60) (hld : ld < 4)
    (hi : i = tI r1.length nu) (hj : j = tJ r1.length nu) (ea : r1[i]? = some a) (eb : r1[j]? = some b)
    (k' : ∀ h' tk', Kp [p0, p1, p2] h h' → Gd w h' → Acc w h' p0 f0 ((r0 ++ [if (sd6 a b).getD ld false then a else b]).map pc) → Acc w h' p1 f1 ((Chip.cutR i j r1).map pc) → Acc w h' p2 f2 ((r2 ++ [if (sd6 a b).getD ld false then b else a]).map pc) → wpAny (model pw w) A (execs ((B4 w).drop 5) (E176 w F)) Q E ⟨h', g, dr, tk', os⟩) :
    wpAny (model pw w) A (execs ((B4 w).drop 4) (E176 w F)) Q E ⟨h, g, dr, tk, os⟩ := by
  obtain ⟨d0, qs0, n0, b0⟩ := x0.obj
  obtain ⟨d1, qs1, n1, b1⟩ := x1.obj
  obtain ⟨d2, qs2, n2, b2⟩ := x2.obj
  have nc : F + 1 ≠ F + 2 := Nat.ne_of_lt (Nat.lt_succ_self (F + 1))
  obtain ⟨Z, D⟩ : ∃ Z, Rep (KTw w) h [F, F + 1, F + 2, p0, p1, p2] h [(F, frL H K (run6 half ld u1 u2 Pi Dr fl v1 v2 va vb (.int (nu : Nat) un) (.int (m + 1 : Nat) uk)) en), (F + 1, cellO (.ref Tb)), (F + 2, cellO (.ref P)), (p0, accO d0 qs0 n0), (p1, accO d1 qs1 n1), (p2, accO d2 qs2 n2)] Z :=
    ⟨_, Rep.init (T := [(F, frL H K (run6 half ld u1 u2 Pi Dr fl v1 v2 va vb (.int (nu : Nat) un) (.int (m + 1 : Nat) uk)) en), (F + 1, cellO (.ref Tb)), (F + 2, cellO (.ref P)), (p0, accO d0 qs0 n0), (p1, accO d1 qs1 n1), (p2, accO d2 qs2 n2)]) G (oc aF (oc aC1 (oc aC2 (oc b0 (oc b1 (oc b2 on))))))
      (nd6f (ne_of_cls aF.1 aC1.1 (by kernel_rfl)) (ne_of_cls aF.1 aC2.1 (by kernel_rfl)) nc (nin3 (ne_of_cls b0.1 aF.1 (by kernel_rfl)) (ne_of_cls b0.1 aC1.1 (by kernel_rfl)) (ne_of_cls b0.1 aC2.1 (by kernel_rfl))) (nin3 (ne_of_cls b1.1 aF.1 (by kernel_rfl)) (ne_of_cls b1.1 aC1.1 (by kernel_rfl)) (ne_of_cls b1.1 aC2.1 (by kernel_rfl))) (nin3 (ne_of_cls b2.1 aF.1 (by kernel_rfl)) (ne_of_cls b2.1 aC1.1 (by kernel_rfl)) (ne_of_cls b2.1 aC2.1 (by kernel_rfl))) n01 n02 n12)⟩
  refine atCut 1 ?_
  refine top_execs (R := fun _ _ => True) ?_
  intro θ
  refine eng 15 158457533972795315377833771008 (by exact hA) D (by kernel_rfl) ?_
  intro χ1 h1 D1
  refine hook (c' := .call (.ref 171) ⟨[.ref P, .int (m + 1 : Nat) uk, .int nu un, .int ld u2, .ref Tb], []⟩) (by kernel_rfl) ?_
  have K1 : Kp [] h h1 := Rep.kpF 0 [true, true, true, true, true, true] D D1 (by kernel_rfl)
  refine turn_spec (r0 := r0) (r1 := r1) (r2 := r2) (f0 := f0) (f1 := f1) (f2 := f2) (ps := ps) (tqs := tqs) (nP := nP) (nT := nT) (ac_handled hA) (depL (b := A.depth) 0 (by kernel_rfl) hd rfl) (depL (b := A.units) 0 (by kernel_rfl) hu rfl) D1.gd (aP.kp K1 (nin0 _)) (aT.kp K1 (nin0 _)) (rT.kp0 K1) (x0.kpc K1 aside0) (x1.kpc K1 aside0) (x2.kpc K1 aside0) n01 n02 n12 e0 e1 e2 hps hr0 hr1 hr2 h8 hr hnu hld hi hj ea eb ?_
  intro h2 tk2 K2 G2 y0 y1 y2
  obtain ⟨d0', qs0', n0', c0⟩ := y0.obj
  obtain ⟨d1', qs1', n1', c1⟩ := y1.obj
  obtain ⟨d2', qs2', n2', c2⟩ := y2.obj
  refine Exists.elim (D1.turnM [(3, p0, accO d0' qs0' n0'), (4, p1, accO d1' qs1' n1'), (5, p2, accO d2' qs2' n2')] K2 (by kernel_rfl) (by kernel_rfl) rfl (all3m c0.1 c1.1 c2.1)) ?_
  intro Z2 D2
  have D3 := D2.to _ rfl
  clear D2
  refine eng 2 0 (by exact hA) D3 (by kernel_rfl) ?_
  intro χ4 h4 D4
  refine finQ (f := .done .next) (by kernel_rfl) ?_
  have K4 : Kp [] h2 h4 := Rep.kpF 0 [true, true, true, true, true, true] D3 D4 (by kernel_rfl)
  exact k' h4 _ (((K1.weak (ks' := [p0, p1, p2]) (by simp)).trans K2 fun _ _ _ q => q).trans K4 fun _ _ _ q => absurd q (nin0 _)) D4.gd (y0.kpc K4 aside0) (y1.kpc K4 aside0) (y2.kpc K4 aside0)
theorem nd6g {a b c d p q : Addr} (h : [a, b, c, d].Nodup) (hp : p ∉ [a, b, c, d]) (hq : q ∉ [a, b, c, d]) (n1 : p ≠ q) : [a, b, c, d, p, q].Nodup := by
  have : ([a, b, c, d] ++ [p, q]).Nodup := by
    refine List.nodup_append.mpr ⟨h, by simp [n1], fun x hx y hy z => ?_⟩
    subst z
    rcases List.mem_cons.mp hy with rfl | hy
    · exact hp hx
    · rw [List.mem_singleton.mp hy] at hx; exact hq hx
  exact this
theorem nin4 {x a b c d : Addr} (h1 : x ≠ a) (h2 : x ≠ b) (h3 : x ≠ c) (h4 : x ≠ d) : x ∉ [a, b, c, d] := by
  simp only [List.mem_cons, List.not_mem_nil, or_false, not_or]
  exact ⟨h1, h2, h3, h4⟩
theorem body_f {E : Value → Shared → Prop} {Q : Flow → Shared → Prop} {F P fl Pi Dr p d : Addr} {H : Nat → Int} {K : Nat → Tok} {half ld en nP nf kk t f n : Nat} {u1 u2 uk ut t1 t2 : Tok} {v1 v2 vb vc : Value} {ps qs : List Addr} {cs : List (Str × Str)} {vs : List Value} {fs : List Nat} {s : Int} {ps1 ps2 : Array Value}
    (hA : A.handled = none) (hd : A.depth + 100 < recursionLimit) (hu : A.units + 400 < cLine) (G : Gd w h) (aF : At w h F (frL H K (run6 half ld u1 u2 Pi Dr fl v1 v2 (.int (t : Nat) ut) vb vc (.int (kk : Nat) uk)) en)) (aC : At w h (F + 2) (cellO (.ref P))) (aP : At w h P (lstO (ps.map .ref) nP)) (af : At w h fl (lstX vs.toArray nf)) (hf : NatsAre vs fs) (hvs : vs.length ≤ 100)
    (hPf : P ≠ fl) (ap : At w h (p + 182) (accO d qs n)) (ad : At w h d (dctO s t1 (f : Nat) t2)) (rq : Row w h qs cs) (hsh : Short cs) (hfk : fs[kk]? = some f) (hf3 : f = 0 ∨ f = 1 ∨ f = 2) (hPk : ps[kk]? = some (p + 182)) (hps : ps.length ≤ 100) (ht1 : TbA w h 63 ps1) (ht2 : TbA w h 70 ps2)
    (k' : ∀ h' g' tk' ps1' ps2', Kp [63, 70] h h' → Gd w h' → TbA w h' 63 ps1' → TbA w h' 70 ps2' → (AllBare g → AllBare g') → wpAny (model pw w) A (execs ((B4 w).drop 6) (E176 w F)) Q E ⟨h', g', dr, tk', os⟩) :
    wpAny (model pw w) A (execs ((B4 w).drop 5) (E176 w F)) Q E ⟨h, g, dr, tk, os⟩ := by
  obtain ⟨tf, hv⟩ := hf.get hfk
  have hql : qs.length ≤ 100 := by rw [rq.length]; exact hsh.1
  have nd := nd6g (nd4f (ne_of_cls aF.1 aC.1 (by kernel_rfl)) (ne_of_cls aF.1 aP.1 (by kernel_rfl)) (ne_of_cls aF.1 af.1 (by kernel_rfl)) (ne_of_cls aC.1 aP.1 (by kernel_rfl)) (ne_of_cls aC.1 af.1 (by kernel_rfl)) hPf) (nin4 (ne_of_cls ap.1 aF.1 (by kernel_rfl)) (ne_of_cls ap.1 aC.1 (by kernel_rfl)) (ne_of_cls ap.1 aP.1 (by kernel_rfl)) (ne_of_cls ap.1 af.1 (by kernel_rfl))) (nin4 (ne_of_cls ad.1 aF.1 (by kernel_rfl)) (ne_of_cls ad.1 aC.1 (by kernel_rfl)) (ne_of_cls ad.1 aP.1 (by kernel_rfl)) (ne_of_cls ad.1 af.1 (by kernel_rfl))) (ne_of_cls ap.1 ad.1 (by kernel_rfl))
  obtain ⟨Z, D⟩ : ∃ Z, Rep (KTw w) h [F, F + 2, P, fl, p + 182, d, 63, 70] h [(F, frL H K (run6 half ld u1 u2 Pi Dr fl v1 v2 (.int (t : Nat) ut) vb vc (.int (kk : Nat) uk)) en), (F + 2, cellO (.ref P)), (P, lstO (ps.map .ref) nP), (fl, lstX vs.toArray nf), (p + 182, accO d qs n), (d, dctO s t1 (f : Nat) t2), (63, tableObj ps1), (70, tableObj ps2)] Z :=
    Rep.initB [(F, frL H K (run6 half ld u1 u2 Pi Dr fl v1 v2 (.int (t : Nat) ut) vb vc (.int (kk : Nat) uk)) en), (F + 2, cellO (.ref P)), (P, lstO (ps.map .ref) nP), (fl, lstX vs.toArray nf), (p + 182, accO d qs n), (d, dctO s t1 (f : Nat) t2)] G (oc aF (oc aC (oc aP (oc af (oc ap (oc ad on)))))) nd rfl ht1 ht2 rfl
  refine atCut 1 ?_
  refine top_execs (R := fun _ _ => True) ?_
  intro θ
  refine eng 5 65536 (by exact hA) D (by kernel_rfl) ?_
  intro χ1 h1 D1
  refine eng2 "special-get-raises" 1 0 1 0 (by exact hA) D1 (by kernel_rfl) ?_
  intro χ2 h2 D2
  refine hook2 (fun u v => .call (.builtin "int.__lt__") ⟨[.int (t : Nat) u, .int 5 v], []⟩) (by kernel_rfl) ?_
  intro x1 y1
  by_cases ht : t < 5
  case neg =>
    refine ltI_spec false (by rw [decide_eq_false_iff_not]; omega) ?_
    intro tk2
    refine finQ (f := .done .next) (by kernel_rfl) ?_
    have K2 : Kp [] h h2 := Rep.kpF 0 [true, true, true, true, true, true, true, true] D D2 (by kernel_rfl)
    exact k' h2 g _ ps1 ps2 (K2.weak (by simp)) D2.gd (ht1.kp K2 (nin0 _)) (ht2.kp K2 (nin0 _)) (fun x => x)
  case pos =>
    refine ltI_spec true (by rw [decide_eq_true_eq]; omega) ?_
    intro tk2
    refine eng 10 14222655854711723261952 (by exact hA) D2 (by kernel_rfl) ?_
    intro χ2 h2 D2
    refine hook2 (fun u v => .call (.builtin "list.__getitem__") ⟨[.ref P, .int (kk : Nat) v], []⟩) (by kernel_rfl) ?_
    intro x3 y3
    refine getitem_spec (v := .ref (p + 182)) (vs := ps.map Value.ref) (n := nP) (D2.at_ (a := P) (o := lstO (ps.map .ref) nP) 2 (by kernel_rfl)).1 (get_map hPk) (by simp; omega) ?_
    refine eng 8 289360674121842944 (by exact hA) D2 (by kernel_rfl) ?_
    intro χ4 h4 D4
    refine hook2 (fun u v => .call (.builtin "list.__getitem__") ⟨[.ref fl, .int (kk : Nat) v], []⟩) (by kernel_rfl) ?_
    intro x5 y5
    refine getitem_spec (v := .int (f : Nat) tf) (vs := vs) (n := nf) (D4.at_ (a := fl) (o := lstX vs.toArray nf) 3 (by kernel_rfl)).1 hv (by omega) ?_
    refine eng 8 217020505595576832 (by exact hA) D4 (by kernel_rfl) ?_
    intro χ6 h6 D6
    refine hook2 (fun u v => .call (.builtin "list.__getitem__") ⟨[.ref P, .int (kk : Nat) v], []⟩) (by kernel_rfl) ?_
    intro x7 y7
    refine getitem_spec (v := .ref (p + 182)) (vs := ps.map Value.ref) (n := nP) (D6.at_ (a := P) (o := lstO (ps.map .ref) nP) 2 (by kernel_rfl)).1 (get_map hPk) (by simp; omega) ?_
    refine eng 9 5497558140160 (by exact hA) D6 (by kernel_rfl) ?_
    intro χ8 h8 D8
    refine eng2 "special-get-raises" 1 0 1 0 (by exact hA) D8 (by kernel_rfl) ?_
    intro χ9 h9 D9
    refine eng 9 281474976711936 (by exact hA) D9 (by kernel_rfl) ?_
    intro χ10 h10 D10
    refine hook (c' := .compStart (piE ⟨100, 63, 100, 68⟩ ⟨100, 73, 100, 78⟩ (.Subscript (.Name "places" ⟨100, 82, 100, 88⟩) (.Name "k" ⟨100, 89, 100, 90⟩) ⟨100, 82, 100, 91⟩) ⟨100, 62, 100, 92⟩) 0 (.ref (adrAt χ10.T 2)) (.ref (adrAt χ10.T 1)) (cEnvAt piS (adrAt χ10.T 0) [] (fdOf (slook (KTw w) 176)) F)) (by kernel_rfl) ?_
    have K10 : Kp [] h h10 := Rep.kpF 3 [true, true, true, true, true, true, true, true] D D10 (by kernel_rfl)
    have q0 := D10.at_ (a := adrAt χ10.T 0) (o := nsO #[] 0) 0 (by kernel_rfl)
    have q1 := D10.at_ (a := adrAt χ10.T 1) (o := lstX #[] 0) 1 (by kernel_rfl)
    have q2 := D10.at_ (a := adrAt χ10.T 2) (o := liO (.ref (p + 182)) (.int 0 0)) 2 (by kernel_rfl)
    refine comp_idA (d := d) (n := n) (qs := qs) (ti := 0) (ac_handled hA) (by omega) D10.gd q0 q1 q2 (ap.kp K10 (nin0 _)) ?_
    intro h11 tk11 es11 en11 na11 v11 K11 o11 c0 c1 c2
    refine Exists.elim (D10.turnL [(0, nsO es11 en11), (1, lstO (qs.map .ref) na11), (2, liO .none v11)] K11 (by kernel_rfl) (by kernel_rfl) (all3 c0.1 c1.1 c2.1)) ?_
    intro Z11 D11
    rcases o11 with rfl | ⟨x11, y11, z11, rfl⟩
    · skip
      refine eng 3 1 (by exact hA) D11 (by kernel_rfl) ?_
      intro χ12 h12 D12
      refine hook (c' := .call (.ref 166) ⟨[.ref (p + 182), .int (f : Nat) tf, .ref (adrAt χ10.T 1)], []⟩) (by kernel_rfl) ?_
      have K12 : Kp [] h h12 := Rep.kpF 3 [true, true, true, true, true, true, true, true] D D12 (by kernel_rfl)
      refine shows_spec (d := d) (n := n) (nr := na11) (hs := s) (tk1 := t1) (tk2 := t2) (qs := qs) (rs := qs) (cs := cs) (ac_handled hA) (depL (b := A.depth) 0 (by kernel_rfl) hd rfl) (depL (b := A.units) 0 (by kernel_rfl) hu rfl) D12.gd (ap.kp K12 (nin0 _)) (ad.kp K12 (nin0 _)) (rq.kp0 K12) hsh (by omega) (D12.at_ (a := adrAt χ10.T 1) (o := lstO (qs.map .ref) na11) 1 (by kernel_rfl)) (rq.kp0 K12) (ht1.kp K12 (nin0 _)) (ht2.kp K12 (nin0 _)) ?_
      intro h13 g13 tk13 ps1' ps2' K13 z1 z2 gs
      refine Exists.elim (D12.turnM [(9, 63, tableObj ps1'), (10, 70, tableObj ps2')] K13 (by kernel_rfl) (by kernel_rfl) rfl (all2m z1.1.1 z2.1.1)) ?_
      intro Z13 D13
      refine eng 2 0 (by exact hA) D13 (by kernel_rfl) ?_
      intro χ14 h14 D14
      refine finQ (f := .done .next) (by kernel_rfl) ?_
      have K14 : Kp [63, 70] h h14 := Rep.kpF 3 [true, true, true, true, true, true, false, false] D D14 (by kernel_rfl)
      exact k' h14 g13 _ ps1' ps2' K14 D14.gd ⟨D14.at_ 9 (by kernel_rfl), z1.2⟩ ⟨D14.at_ 10 (by kernel_rfl), z2.2⟩ gs
    · skip
      refine eng 7 16842753 (by exact hA) D11 (by kernel_rfl) ?_
      intro χ12 h12 D12
      refine hook (c' := .call (.ref 166) ⟨[.ref (p + 182), .int (f : Nat) tf, .ref (adrAt χ10.T 1)], []⟩) (by kernel_rfl) ?_
      have K12 : Kp [] h h12 := Rep.kpF 3 [true, true, true, true, true, true, true, true] D D12 (by kernel_rfl)
      refine shows_spec (d := d) (n := n) (nr := na11) (hs := s) (tk1 := t1) (tk2 := t2) (qs := qs) (rs := qs) (cs := cs) (ac_handled hA) (depL (b := A.depth) 0 (by kernel_rfl) hd rfl) (depL (b := A.units) 0 (by kernel_rfl) hu rfl) D12.gd (ap.kp K12 (nin0 _)) (ad.kp K12 (nin0 _)) (rq.kp0 K12) hsh (by omega) (D12.at_ (a := adrAt χ10.T 1) (o := lstO (qs.map .ref) na11) 1 (by kernel_rfl)) (rq.kp0 K12) (ht1.kp K12 (nin0 _)) (ht2.kp K12 (nin0 _)) ?_
      intro h13 g13 tk13 ps1' ps2' K13 z1 z2 gs
      refine Exists.elim (D12.turnM [(9, 63, tableObj ps1'), (10, 70, tableObj ps2')] K13 (by kernel_rfl) (by kernel_rfl) rfl (all2m z1.1.1 z2.1.1)) ?_
      intro Z13 D13
      refine eng 2 0 (by exact hA) D13 (by kernel_rfl) ?_
      intro χ14 h14 D14
      refine finQ (f := .done .next) (by kernel_rfl) ?_
      have K14 : Kp [63, 70] h h14 := Rep.kpF 3 [true, true, true, true, true, true, false, false] D D14 (by kernel_rfl)
      exact k' h14 g13 _ ps1' ps2' K14 D14.gd ⟨D14.at_ 9 (by kernel_rfl), z1.2⟩ ⟨D14.at_ 10 (by kernel_rfl), z2.2⟩ gs
def Pz5 (pz : List (Str × Value)) : Prop := pz = [] ∨ ∃ a b c d, pz = ([("turn", a), ("full", b), ("number", c), ("k", d)] : List (Str × Value))
theorem asg_turn {E : Value → Shared → Prop} {Q : Shared → Prop} {F fl Pi Dr : Addr} {H : Nat → Int} {K : Nat → Tok} {half ld en t : Nat} {u1 u2 ut : Tok} {v1 v2 : Value} {pz : List (Str × Value)}
    (hA : A.handled = none) (G : Gd w h) (hpz : Pz5 pz) (aF : At w h F (frL H K (run2 half ld u1 u2 Pi Dr fl v1 v2 ++ pz) en))
    (k' : ∀ h' tk' H' K' en' pz', Kp [F] h h' → Gd w h' → Pz4 pz' → At w h' F (frL H' K' (run3 half ld u1 u2 Pi Dr fl v1 v2 (.int (t : Nat) ut) pz') en') → Q ⟨h', g, dr, tk', os⟩) :
    wpAny (model pw w) A (assign (foT ((B176 w).drop 4)) (E176 w F) (.int (t : Nat) ut)) (fun _ s => Q s) E ⟨h, g, dr, tk, os⟩ := by
  rcases hpz with rfl | ⟨va, vb, vc, vd, rfl⟩
  · skip
    obtain ⟨Z, D⟩ : ∃ Z, Rep (KTw w) h [F] h [(F, frL H K (run2 half ld u1 u2 Pi Dr fl v1 v2 ++ []) en)] Z := Rep.initC (T := [(F, frL H K (run2 half ld u1 u2 Pi Dr fl v1 v2 ++ []) en)]) G (oc aF on) (by kernel_rfl)
    refine top_assign (R := fun _ _ => True) ?_
    refine eng 7 1103806595072 (by exact hA) D (by kernel_rfl) ?_
    intro χ1 h1 D1
    refine finQ (f := .done .next) (by kernel_rfl) ?_
    exact k' h1 _ (eHi (objAt χ1.T 0)) (eKi (objAt χ1.T 0)) (eNd (objAt χ1.T 0)) [] (Rep.kpF 0 [false] D D1 (by kernel_rfl)) D1.gd (.inl rfl) (D1.at_ 0 (by kernel_rfl))
  · skip
    obtain ⟨Z, D⟩ : ∃ Z, Rep (KTw w) h [F] h [(F, frL H K (run2 half ld u1 u2 Pi Dr fl v1 v2 ++ ([("turn", va), ("full", vb), ("number", vc), ("k", vd)] : List (Str × Value))) en)] Z := Rep.initC (T := [(F, frL H K (run2 half ld u1 u2 Pi Dr fl v1 v2 ++ ([("turn", va), ("full", vb), ("number", vc), ("k", vd)] : List (Str × Value))) en)]) G (oc aF on) (by kernel_rfl)
    refine top_assign (R := fun _ _ => True) ?_
    refine eng 7 1103806595072 (by exact hA) D (by kernel_rfl) ?_
    intro χ1 h1 D1
    refine finQ (f := .done .next) (by kernel_rfl) ?_
    exact k' h1 _ (eHi (objAt χ1.T 0)) (eKi (objAt χ1.T 0)) (eNd (objAt χ1.T 0)) ([("full", vb), ("number", vc), ("k", vd)] : List (Str × Value)) (Rep.kpF 0 [false] D D1 (by kernel_rfl)) D1.gd (.inr ⟨_, _, _, rfl⟩) (D1.at_ 0 (by kernel_rfl))
def optFin : Option Value → Fin
  | none => .done .next
  | some v => .done (.ret v)
noncomputable def PNX (v : Value) : Sem Fin := PySem.W.R.bindR (PySem.W.ZFast.zw9404975358583537561 v) (fun o => .pure (optFin o))
def onOpt (Q : Option Value → Shared → Prop) : Fin → Shared → Prop := fun f s => match f with
  | .done .next => Q none s
  | .done (.ret v) => Q (some v) s
  | _ => False
theorem top_next {prog : Program} {E : Value → Shared → Prop} {v : Value} {Q : Option Value → Shared → Prop} {s : Shared} (h : Mean prog w A (onOpt Q) E R none (PNX v) [] s) : wpAny (model prog w) A (pyNext v) Q E s := by
  have h' : wpAny (model prog w) A (PNX v) (onOpt Q) E s := h.holds
  unfold PNX at h'
  rw [← PySem.W.R.bindR_eq, ← PySem.W.ZFast.ze9404975358583537561] at h'
  refine wpAny_mono (unbind (k := optFin) h') (fun o s x => ?_) fun _ _ x => x
  cases o <;> exact x
theorem next_some {E : Value → Shared → Prop} {Q : Option Value → Shared → Prop} {it : Addr} {i m : Nat}
    (hA : A.handled = none) (G : Gd w h) (aI : At w h it (riO (i : Nat) (m + 1 : Nat)))
    (k : ∀ h' tk' t, Kp [it] h h' → Gd w h' → At w h' it (riO (i + 1 : Nat) (m : Nat)) → Q (some (.int (i : Nat) t)) ⟨h', g, dr, tk', os⟩) :
    wpAny (model pw w) A (pyNext (.ref it)) Q E ⟨h, g, dr, tk, os⟩ := by
  obtain ⟨Z, D⟩ : ∃ Z, Rep (KTw w) h [it] h [(it, riO (i : Nat) (m + 1 : Nat))] Z := Rep.initC (T := [(it, riO (i : Nat) (m + 1 : Nat))]) G (oc aI on) (by kernel_rfl)
  refine top_next (R := fun _ _ => True) ?_
  refine eng 1 1 (by exact hA) D (by kernel_rfl) ?_
  intro χ1 h1 D1
  refine hook (c' := .call (.builtin "range_iterator.__next__") ⟨[.ref it], []⟩) (by kernel_rfl) ?_
  refine ri_next_some (a := (i : Nat)) (b := (m + 1 : Nat)) (D1.at_ 0 (by kernel_rfl)).1 (by omega) ?_
  intro h2 tk2 t2 K2 a2
  rw [show ((i : Nat) : Int) + 1 = ((i + 1 : Nat) : Int) from by push_cast; rfl, show ((m + 1 : Nat) : Int) - 1 = (m : Nat) from by push_cast; omega] at a2
  refine Exists.elim ((D1.turn (j := 0) (x := (it, riO (i : Nat) (m + 1 : Nat))) (by kernel_rfl) K2 a2).ex) ?_
  intro Z2 D2
  refine finQ (f := .done (.ret (.int (i : Nat) t2))) (by kernel_rfl) ?_
  exact k _ _ t2 D2.keep D2.gd (D2.at_ 0 (by kernel_rfl))
theorem next_none {E : Value → Shared → Prop} {Q : Option Value → Shared → Prop} {it : Addr} {i : Nat}
    (hA : A.handled = none) (G : Gd w h) (aI : At w h it (riO (i : Nat) (0 : Nat)))
    (k : ∀ h' tk', Kp [] h h' → Gd w h' → Q none ⟨h', g, dr, tk', os⟩) :
    wpAny (model pw w) A (pyNext (.ref it)) Q E ⟨h, g, dr, tk, os⟩ := by
  obtain ⟨Z, D⟩ : ∃ Z, Rep (KTw w) h [it] h [(it, riO (i : Nat) (0 : Nat))] Z := Rep.initC (T := [(it, riO (i : Nat) (0 : Nat))]) G (oc aI on) (by kernel_rfl)
  refine top_next (R := fun _ _ => True) ?_
  refine eng 1 1 (by exact hA) D (by kernel_rfl) ?_
  intro χ1 h1 D1
  refine hook (c' := .call (.builtin "range_iterator.__next__") ⟨[.ref it], []⟩) (by kernel_rfl) ?_
  refine ri_next_none (a := (i : Nat)) (b := (0 : Nat)) (ac_handled hA) D1.gd (D1.at_ 0 (by kernel_rfl)) (by simp) ?_
  intro h2 tk2 e t K2 ae he
  refine Exists.elim ((D1.plus K2 ae he).ex) ?_
  intro Z2 D2
  refine eng 1 1 (by exact hA) D2 (by kernel_rfl) ?_
  intro χ3 h3 D3
  refine finQ (f := .done .next) (by kernel_rfl) ?_
  exact k _ _ (Rep.kpF 1 [true] D D3 (by kernel_rfl)) D3.gd
structure Sta (w : World) (h : Heap) (F P fl Pi Dr Tb : Addr) (ps hs tqs : List Addr) (vs dvs : List Value) (nP nf kh nD nT : Nat) (hcs : List (Str × Str)) : Prop where
  G : Gd w h
  c1 : At w h (F + 1) (cellO (.ref Tb))
  c2 : At w h (F + 2) (cellO (.ref P))
  aP : At w h P (lstO (ps.map .ref) nP)
  af : At w h fl (lstX vs.toArray nf)
  ah : At w h Pi (lstO (hs.map .ref) kh)
  aD : At w h Dr (lstX dvs.toArray nD)
  aT : At w h Tb (lstO (tqs.map .ref) nT)
  rh : Row w h hs hcs
  rT : Row w h tqs pcs
def Turns (h : Heap) (ks : List Addr) : Prop := ∀ a ∈ ks, ∀ o, h.get? a = some o → o.cls = .type "frame" ∨ o.cls = .ref 101 ∨ o.cls = .type "range_iterator" ∨ o.cls = .none
theorem turns0 : Turns h [] := fun _ h => (nomatch h)
theorem Turns.cons {x : Addr} {ks : List Addr} {o : Obj} (e : h.get? x = some o) (c : o.cls = .type "frame" ∨ o.cls = .ref 101 ∨ o.cls = .type "range_iterator" ∨ o.cls = .none) (r : Turns h ks) : Turns h (x :: ks) := by
  intro a ha o' e'
  rcases List.mem_cons.mp ha with rfl | ha
  · rw [e] at e'; cases e'; exact c
  · exact r a ha o' e'
theorem Turns.off {h h' : Heap} {ks : List Addr} (t : Turns h ks) {x : Addr} {o : Obj} (a : At w h x o) (K : Kp ks h h') (n1 : o.cls ≠ .type "frame") (n2 : o.cls ≠ .ref 101) (n3 : o.cls ≠ .type "range_iterator") (n4 : o.cls ≠ .none) : At w h' x o :=
  a.kp K fun q => by
    rcases t x q o a.1 with z | z | z | z
    · exact n1 z
    · exact n2 z
    · exact n3 z
    · exact n4 z
theorem Turns.ntup {ks : List Addr} (t : Turns h ks) : ∀ a ∈ ks, ∀ o, h.get? a = some o → o.cls ≠ .type "tuple" := by
  intro a ha o e z
  rcases t a ha o e with c | c | c | c <;> rw [z] at c <;> simp at c
theorem Sta.kp {h h' : Heap} {ks : List Addr} {F P fl Pi Dr Tb : Addr} {ps hs tqs : List Addr} {vs dvs : List Value} {nP nf kh nD nT : Nat} {hcs : List (Str × Str)} (x : Sta w h F P fl Pi Dr Tb ps hs tqs vs dvs nP nf kh nD nT hcs) (G' : Gd w h') (K : Kp ks h h') (t : Turns h ks) : Sta w h' F P fl Pi Dr Tb ps hs tqs vs dvs nP nf kh nD nT hcs :=
  ⟨G', t.off x.c1 K (by simp) (by simp) (by simp) (by simp), t.off x.c2 K (by simp) (by simp) (by simp) (by simp), t.off x.aP K (by simp) (by simp) (by simp) (by simp), t.off x.af K (by simp) (by simp) (by simp) (by simp), t.off x.ah K (by simp) (by simp) (by simp) (by simp), t.off x.aD K (by simp) (by simp) (by simp) (by simp), t.off x.aT K (by simp) (by simp) (by simp) (by simp), x.rh.kpc K t.ntup, x.rT.kpc K t.ntup⟩
theorem Aside.of {ks : List Addr} (t : ∀ a ∈ ks, ∀ o, h.get? a = some o → o.cls = .type "frame" ∨ o.cls = .type "range_iterator" ∨ o.cls = .none) : Aside h ks := by
  intro a ha o e
  rcases t a ha o e with c | c | c <;> rw [c] <;> exact ⟨by simp, by simp, by simp⟩
theorem pc_short (x : Nat) : (pc x).1.length ≤ 10 ∧ (pc x).2.length ≤ 10 := by
  have key : ∀ c ∈ pcs, c.1.length ≤ 10 ∧ c.2.length ≤ 10 := by decide +kernel
  unfold pc
  rw [List.getD_eq_getElem?_getD]
  cases h : pcs[x]? with
  | none => exact ⟨by decide, by decide⟩
  | some c => exact key c (List.mem_of_getElem? h)
theorem short_pcs (r : List Nat) (h : r.length ≤ 100) : Short (r.map pc) := by
  refine ⟨by simpa using h, fun c hc => ?_⟩
  obtain ⟨x, _, rfl⟩ := List.mem_map.mp hc
  exact pc_short x
theorem sd_dir (a b ld : Nat) (hld : ld < 4) : if decide (2 ≤ ld) then (if (sd6 a b).getD ld false then b else a) ≤ (if (sd6 a b).getD ld false then a else b) else (if (sd6 a b).getD ld false then a else b) ≤ (if (sd6 a b).getD ld false then b else a) := by
  have : ld = 0 ∨ ld = 1 ∨ ld = 2 ∨ ld = 3 := by omega
  rcases this with rfl | rfl | rfl | rfl
  · have : (sd6 a b).getD 0 false = decide (a < b) := rfl
    rw [this, if_neg (by decide)]
    by_cases c : a < b <;> simp [c] <;> omega
  · have : (sd6 a b).getD 1 false = decide (a ≤ b) := rfl
    rw [this, if_neg (by decide)]
    by_cases c : a ≤ b <;> simp [c] <;> omega
  · have : (sd6 a b).getD 2 false = decide (b < a) := rfl
    rw [this, if_pos (by decide)]
    by_cases c : b < a <;> simp [c] <;> omega
  · have : (sd6 a b).getD 3 false = decide (b ≤ a) := rfl
    rw [this, if_pos (by decide)]
    by_cases c : b ≤ a <;> simp [c] <;> omega
theorem full_mem {rows : List (List Nat)} {n k : Nat} (h : k ∈ fullK rows n) : k < n ∧ 1 < (rows.getD k []).length := by
  unfold fullK at h
  rw [List.mem_filter, List.mem_range'] at h
  obtain ⟨⟨i, hi, e⟩, h2⟩ := h
  exact ⟨by omega, by simpa using h2⟩
theorem mem_full {rows : List (List Nat)} {n k : Nat} (h : k < n) (h2 : 1 < (rows.getD k []).length) : k ∈ fullK rows n := by
  unfold fullK
  rw [List.mem_filter, List.mem_range']
  exact ⟨⟨k, h, by omega⟩, by simpa using h2⟩
theorem TbA.kpc {h h' : Heap} {P : Addr} {ps : Array Value} {ks : List Addr} (x : TbA w h P ps) (K : Kp ks h h') (n : ∀ a ∈ ks, ∀ o, h.get? a = some o → o.cls ≠ .none) : TbA w h' P ps := x.kp K fun q => n _ q _ x.1.1 rfl
theorem kind1 {x : Addr} {o : Obj} {C : Obj → Prop} (e : h.get? x = some o) (c : C o) : ∀ a ∈ [x], ∀ o, h.get? a = some o → C o := by
  intro a ha o' e'
  rw [List.mem_singleton.mp ha, e] at e'
  cases e'; exact c
theorem kind3 {x y z : Addr} {o o1 o2 : Obj} {C : Obj → Prop} (e : h.get? x = some o) (c : C o) (e1 : h.get? y = some o1) (c1 : C o1) (e2 : h.get? z = some o2) (c2 : C o2) : ∀ a ∈ [x, y, z], ∀ o, h.get? a = some o → C o := by
  intro a ha o' e'
  rcases List.mem_cons.mp ha with rfl | ha
  · rw [e] at e'; cases e'; exact c
  exact (by
    rcases List.mem_cons.mp ha with rfl | ha
    · rw [e1] at e'; cases e'; exact c1
    · rw [List.mem_singleton.mp ha, e2] at e'; cases e'; exact c2)
theorem kind2 {x y : Addr} {o o1 : Obj} {C : Obj → Prop} (e : h.get? x = some o) (c : C o) (e1 : h.get? y = some o1) (c1 : C o1) : ∀ a ∈ [x, y], ∀ o, h.get? a = some o → C o := by
  intro a ha o' e'
  rcases List.mem_cons.mp ha with rfl | ha
  · rw [e] at e'; cases e'; exact c
  · rw [List.mem_singleton.mp ha, e1] at e'; cases e'; exact c1
structure Lp (w : World) (h : Heap) (F P fl Pi Dr Tb it : Addr) (ps hs tqs : List Addr) (vs dvs : List Value) (nP nf kh nD nT half ld : Nat) (hcs : List (Str × Str)) (u1 u2 : Tok) (v1 v2 : Value) (fs pcsR : List Nat) (t m : Nat) : Prop where
  sta : Sta w h F P fl Pi Dr Tb ps hs tqs vs dvs nP nf kh nD nT hcs
  fr : ∃ pz H K en, Pz5 pz ∧ At w h F (frL H K (run2 half ld u1 u2 Pi Dr fl v1 v2 ++ pz) en) ∧ (t ≠ 0 → pz ≠ [])
  aI : At w h it (riO (t : Nat) (m : Nat))
  tb : (∃ ps1, TbA w h 63 ps1) ∧ (∃ ps2, TbA w h 70 ps2)
  st : ∃ rows, Pl w h ps fs rows ∧ Chip.Inv half (decide (2 ≤ ld)) pcsR t rows
structure Rs (w : World) (h : Heap) (F P fl Pi Dr Tb it : Addr) (ps hs tqs : List Addr) (vs dvs : List Value) (nP nf kh nD nT : Nat) (hcs : List (Str × Str)) (fs : List Nat) (t m : Nat) (rows : List (List Nat)) (ps1 ps2 : Array Value) : Prop where
  sta : Sta w h F P fl Pi Dr Tb ps hs tqs vs dvs nP nf kh nD nT hcs
  pl : Pl w h ps fs rows
  aI : At w h it (riO (t : Nat) (m : Nat))
  t1 : TbA w h 63 ps1
  t2 : TbA w h 70 ps2
theorem Rs.kp {h h' : Heap} {ks : List Addr} {F P fl Pi Dr Tb it : Addr} {ps hs tqs : List Addr} {vs dvs : List Value} {nP nf kh nD nT : Nat} {hcs : List (Str × Str)} {fs : List Nat} {t m : Nat} {rows : List (List Nat)} {ps1 ps2 : Array Value}
    (x : Rs w h F P fl Pi Dr Tb it ps hs tqs vs dvs nP nf kh nD nT hcs fs t m rows ps1 ps2) (G' : Gd w h') (K : Kp ks h h') (c : ∀ a ∈ ks, ∀ o, h.get? a = some o → o.cls = .type "frame") : Rs w h' F P fl Pi Dr Tb it ps hs tqs vs dvs nP nf kh nD nT hcs fs t m rows ps1 ps2 :=
  ⟨x.sta.kp G' K fun a ha o e => .inl (c a ha o e), x.pl.kp K (Aside.of fun a ha o e => .inl (c a ha o e)), x.aI.kp K fun q => by have := c _ q _ x.aI.1; simp at this, x.t1.kpc K fun a ha o e => by rw [c a ha o e]; simp, x.t2.kpc K fun a ha o e => by rw [c a ha o e]; simp⟩
theorem c0 {C : Obj → Prop} : ∀ a ∈ ([] : List Addr), ∀ o, h.get? a = some o → C o := fun _ h => (nomatch h)
theorem trans_old {h₀ h h' : Heap} {ks : List Addr} (K : Kp [63, 70] h₀ h) (K' : Kp ks h h') (f : ∀ a ∈ ks, h₀.get? a = none ∨ a ∈ ([63, 70] : List Addr)) : Kp [63, 70] h₀ h' := K.trans K' fun x o e q => by
  rcases f x q with z | z
  · rw [z] at e; cases e
  · exact z
theorem main_loop {h₀ h : Heap} {F P fl Pi Dr Tb it : Addr} {ps hs tqs : List Addr} {vs dvs : List Value} {nP nf kh nD nT half ld : Nat} {hcs : List (Str × Str)} {u1 u2 : Tok} {v1 v2 : Value} {fs dns pcsR : List Nat}
    (hA : A.handled = none) (hd : A.depth + 300 < recursionLimit) (hu : A.units + 500 < cLine) (h2' : 2 ≤ half) (h4 : half ≤ 4) (hp : pcsR.length = 2 * half) (hps : ps.length = 2 * half + 1) (hf : NatsAre vs fs) (hfl : fs.length = 2 * half + 1) (hf3 : ∀ f ∈ fs, f < 3)
    (hD : NatsAre dvs dns) (hDl : dvs.length ≤ 100) (hD0 : 0 < dvs.length) (hDb : ∀ x ∈ dns, x < 2 ^ 60) (hPf : P ≠ fl) (hld : ld < 4) (fF : h₀.get? F = none) (fI : h₀.get? it = none) (fps : ∀ p ∈ ps, h₀.get? p = none)
    (K0 : Kp [63, 70] h₀ h) (L0 : Lp w h F P fl Pi Dr Tb it ps hs tqs vs dvs nP nf kh nD nT half ld hcs u1 u2 v1 v2 fs pcsR 0 (Chip.turns half))
    (k : ∀ h' g' tk', (AllBare g → AllBare g') → Kp [63, 70] h₀ h' → Lp w h' F P fl Pi Dr Tb it ps hs tqs vs dvs nP nf kh nD nT half ld hcs u1 u2 v1 v2 fs pcsR (Chip.turns half) 0 → R (.ok .next) ⟨h', g', dr, tk', os⟩) :
    codeAny (model pw w) A (.forLoop (foT ((B176 w).drop 4)) (.ref it) (B4 w) (foO ((B176 w).drop 4)) (E176 w F)) R ⟨h, g, dr, tk, os⟩ := by
  refine codeAny_forLoop (I := fun n s => ∃ t h' g' tk', s = ⟨h', g', dr, tk', os⟩ ∧ t + n = Chip.turns half ∧ (AllBare g → AllBare g') ∧ Kp [63, 70] h₀ h' ∧ Lp w h' F P fl Pi Dr Tb it ps hs tqs vs dvs nP nf kh nD nT half ld hcs u1 u2 v1 v2 fs pcsR t n) (fun n s hI => ?_) (Chip.turns half) ⟨0, h, g, tk, rfl, Nat.zero_add _, id, K0, L0⟩
  obtain ⟨t, h1, g1, tk1, rfl, htn, gs, KK, L⟩ := hI
  have hN : Chip.turns half ≤ 30 := by
    have : half = 2 ∨ half = 3 ∨ half = 4 := by omega
    rcases this with rfl | rfl | rfl <;> decide
  obtain ⟨sta, ⟨pz, H, K, en, hpz, aF, hz0⟩, aI, ⟨⟨ps1, tb1⟩, ps2, tb2⟩, rows, pl, inv⟩ := L
  cases n with
  | zero =>
    have ht : t = Chip.turns half := htn
    subst ht
    refine next_none hA sta.G aI ?_
    intro h2 tk2 K2 G2
    show wpAny _ _ (execs (foO ((B176 w).drop 4)) (E176 w F)) _ _ _
    rw [show foO ((B176 w).drop 4) = [] from by kernel_rfl]
    refine wpAny_pure (k h2 g1 tk2 gs (trans_old KK K2 (fun _ q => absurd q (nin0 _))) ⟨sta.kp G2 K2 turns0, ⟨pz, H, K, en, hpz, aF.kp K2 (nin0 _), hz0⟩, aI.kp K2 (nin0 _), ⟨⟨ps1, tb1.kp K2 (nin0 _)⟩, ps2, tb2.kp K2 (nin0 _)⟩, rows, pl.kp K2 aside0, inv⟩)
  | succ n =>
    refine next_some hA sta.G aI ?_
    intro h2 tk2 ut K2 G2 aI2
    replace aF := aF.kp K2 (nin1 (ne_of_cls aF.1 aI.1 (by kernel_rfl)))
    have X : Rs w h2 F P fl Pi Dr Tb it ps hs tqs vs dvs nP nf kh nD nT hcs fs (t + 1) n rows ps1 ps2 :=
      ⟨sta.kp G2 K2 (kind1 aI.1 (.inr (.inr (.inl rfl)))), pl.kp K2 (Aside.of (kind1 aI.1 (.inr (.inl rfl)))), aI2, tb1.kpc K2 (kind1 aI.1 (by simp)), tb2.kpc K2 (kind1 aI.1 (by simp))⟩
    replace KK := trans_old KK K2 (by intro a ha; rw [List.mem_singleton.mp ha]; exact .inl fI)
    clear sta pl aI tb1 tb2 K2 G2 aI2
    have oF : ∀ a ∈ [F], h₀.get? a = none ∨ a ∈ ([63, 70] : List Addr) := by intro a ha; rw [List.mem_singleton.mp ha]; exact .inl fF
    show wpAny _ _ (assign (foT ((B176 w).drop 4)) (E176 w F) (.int (t : Nat) ut)) _ _ _
    refine asg_turn hA X.sta.G hpz aF ?_
    intro h3 tk3 H3 K3' en3 pz3 K3 G3 hpz3 aF3
    replace X := X.kp G3 K3 (kind1 aF.1 rfl)
    replace KK := trans_old KK K3 oF
    clear aF K3 G3
    have hpl : ps.length ≤ 100 := by omega
    refine body_a hA (by omega) X.sta.G hpz3 aF3 X.sta.c2 X.sta.aP hpl X.pl ?_
    intro h4' tk4 ful nfu zs H4 K4' en4 pz4 K4 G4 hpz4 aF4 afu hz ffu
    replace X := X.kp G4 K4 (kind1 aF3.1 rfl)
    replace KK := trans_old KK K4 oF
    clear aF3 K4 G4
    obtain ⟨k1, r1', e1', l1'⟩ := inv.some_full h2' h4 hp (by omega)
    have hrl : rows.length = 2 * half + 1 := inv.len
    have hk1 : k1 < rows.length := (List.getElem?_eq_some_iff.mp e1').1
    have hm1 : k1 ∈ fullK rows ps.length := mem_full (by omega) (by rw [List.getD_eq_getElem?_getD, e1']; exact l1')
    have hfne : fullK rows ps.length ≠ [] := fun z => by rw [z] at hm1; cases hm1
    have hzl := hz.length
    have hfl2 : (fullK rows ps.length).length ≤ ps.length := by
      unfold fullK
      refine Nat.le_trans (List.length_filter_le ..) ?_
      rw [List.length_range']
      exact Nat.le_refl _
    have hz0' : 0 < zs.length := by
      rw [hzl]; exact List.length_pos_iff.mpr hfne
    refine body_b hA (by omega) X.sta.G hpz4 aF4 afu (hz.ne hfne) ?_
    intro h5 tk5 K5 G5
    replace X := X.kp G5 K5 c0
    replace KK := trans_old KK K5 (fun _ q => absurd q (nin0 _))
    replace aF4 := aF4.kp K5 (nin0 _)
    replace afu := afu.kp K5 (nin0 _)
    clear K5 G5
    have hdl := hD.length
    have htd : t % dvs.length < dns.length := by rw [← hdl]; exact Nat.mod_lt _ hD0
    obtain ⟨x, hx⟩ : ∃ x, dns[t % dvs.length]? = some x := ⟨_, List.getElem?_eq_getElem htd⟩
    have hx60 := hDb x (List.mem_of_getElem? hx)
    refine body_c hA X.sta.G hpz4 aF4 X.sta.aD hD hDl hD0 hx (by omega) ?_
    intro h6 tk6 H6 K6' en6 pz6 un K6 G6 hpz6 aF6
    have afu6 := afu.kp K6 (nin1 (ne_of_cls afu.1 aF4.1 (by kernel_rfl)))
    replace X := X.kp G6 K6 (kind1 aF4.1 rfl)
    replace KK := trans_old KK K6 oF
    clear aF4 afu K6 G6
    have hnu : x / (t + 1) < 2 ^ 60 := Nat.lt_of_le_of_lt (Nat.div_le_self _ _) hx60
    generalize hnuE : x / (t + 1) = nu at aF6 hnu
    have hkl : nu % zs.length < (fullK rows ps.length).length := by rw [← hzl]; exact Nat.mod_lt _ hz0'
    obtain ⟨kk, hkk⟩ : ∃ kk, (fullK rows ps.length)[nu % zs.length]? = some kk := ⟨_, List.getElem?_eq_getElem hkl⟩
    obtain ⟨hkp, hkr⟩ := full_mem (List.mem_of_getElem? hkk)
    refine body_d hA X.sta.G hpz6 aF6 afu6 hz (by omega) hz0' hkk ?_
    intro h7 tk7 H7 K7' en7 uk K7 G7 aF7
    replace X := X.kp G7 K7 (kind1 aF6.1 rfl)
    replace KK := trans_old KK K7 oF
    clear aF6 afu6 K7 G7
    have hkr' : kk < rows.length := by omega
    obtain ⟨r1, c1⟩ : ∃ r, rows[kk]? = some r := ⟨_, List.getElem?_eq_getElem hkr'⟩
    rw [List.getD_eq_getElem?_getD, c1] at hkr
    have hkr : 1 < r1.length := hkr
    obtain ⟨hk0, hk2⟩ := inv.full_in h2' h4 hp (by omega) c1 hkr
    obtain ⟨m, rfl⟩ : ∃ m, kk = m + 1 := ⟨kk - 1, by omega⟩
    obtain ⟨r0, c0'⟩ : ∃ r, rows[m]? = some r := ⟨_, List.getElem?_eq_getElem (by omega)⟩
    obtain ⟨r2, c2⟩ : ∃ r, rows[m + 2]? = some r := ⟨_, List.getElem?_eq_getElem (by omega)⟩
    obtain ⟨p0, e0⟩ : ∃ r, ps[m]? = some r := ⟨_, List.getElem?_eq_getElem (by omega)⟩
    obtain ⟨p1, e1⟩ : ∃ r, ps[m + 1]? = some r := ⟨_, List.getElem?_eq_getElem (by omega)⟩
    obtain ⟨p2, e2⟩ : ∃ r, ps[m + 2]? = some r := ⟨_, List.getElem?_eq_getElem (by omega)⟩
    obtain ⟨f0, g0⟩ : ∃ r, fs[m]? = some r := ⟨_, List.getElem?_eq_getElem (by omega)⟩
    obtain ⟨f1, g1'⟩ : ∃ r, fs[m + 1]? = some r := ⟨_, List.getElem?_eq_getElem (by omega)⟩
    obtain ⟨f2, g2⟩ : ∃ r, fs[m + 2]? = some r := ⟨_, List.getElem?_eq_getElem (by omega)⟩
    have lr0 : r0.length ≤ 8 := by have := inv.row_le (List.mem_of_getElem? c0'); omega
    have lr1 : r1.length ≤ 8 := by have := inv.row_le (List.mem_of_getElem? c1); omega
    have lr2 : r2.length ≤ 8 := by have := inv.row_le (List.mem_of_getElem? c2); omega
    have n01 : p0 ≠ p1 := fun z => by have := nodup_get X.pl.nd e0 (z ▸ e1); omega
    have n02 : p0 ≠ p2 := fun z => by have := nodup_get X.pl.nd e0 (z ▸ e2); omega
    have n12 : p1 ≠ p2 := fun z => by have := nodup_get X.pl.nd e1 (z ▸ e2); omega
    have hti : tI r1.length nu < r1.length - 1 := Nat.mod_lt _ (by omega)
    have htj : tJ r1.length nu < r1.length := by
      have : nu / 63 % (r1.length - 1 - tI r1.length nu) < r1.length - 1 - tI r1.length nu := Nat.mod_lt _ (by omega)
      unfold tJ; omega
    have hij : tI r1.length nu < tJ r1.length nu := by unfold tJ; omega
    obtain ⟨va, ea⟩ : ∃ r, r1[tI r1.length nu]? = some r := ⟨_, List.getElem?_eq_getElem (by omega)⟩
    obtain ⟨vb, eb⟩ : ∃ r, r1[tJ r1.length nu]? = some r := ⟨_, List.getElem?_eq_getElem htj⟩
    have x0 := X.pl.acc m p0 f0 r0 e0 g0 c0'
    have x1 := X.pl.acc (m + 1) p1 f1 r1 e1 g1' c1
    have x2 := X.pl.acc (m + 2) p2 f2 r2 e2 g2 c2
    refine body_e hA (by omega) (by omega) X.sta.G aF7 X.sta.c1 X.sta.c2 X.sta.aP X.sta.aT X.sta.rT x0 x1 x2 n01 n02 n12 e0 e1 e2 hpl lr0 lr1 lr2 (inv.small r1 (List.mem_of_getElem? c1)) hkr hnu hld rfl rfl ea eb ?_
    intro h8 tk8 K8 G8 y0 y1 y2
    obtain ⟨_, _, _, z0⟩ := x0.obj
    obtain ⟨_, _, _, z1⟩ := x1.obj
    obtain ⟨_, _, _, z2⟩ := x2.obj
    have pl8 := X.pl.turn e0 e1 e2 g0 g1' g2 c0' c1 c2 K8 y0 y1 y2
    have sta8 := X.sta.kp G8 K8 (kind3 z0.1 (.inr (.inl rfl)) z1.1 (.inr (.inl rfl)) z2.1 (.inr (.inl rfl)))
    have aI8 := X.aI.kp K8 (nin3 (ne_of_cls X.aI.1 z0.1 (by kernel_rfl)) (ne_of_cls X.aI.1 z1.1 (by kernel_rfl)) (ne_of_cls X.aI.1 z2.1 (by kernel_rfl)))
    have tb18 := X.t1.kpc K8 (kind3 z0.1 (by simp) z1.1 (by simp) z2.1 (by simp))
    have tb28 := X.t2.kpc K8 (kind3 z0.1 (by simp) z1.1 (by simp) z2.1 (by simp))
    replace aF7 := aF7.kp K8 (nin3 (ne_of_cls aF7.1 z0.1 (by kernel_rfl)) (ne_of_cls aF7.1 z1.1 (by kernel_rfl)) (ne_of_cls aF7.1 z2.1 (by kernel_rfl)))
    replace KK := trans_old KK K8 (by
      intro a ha
      rcases List.mem_cons.mp ha with rfl | ha
      · exact .inl (fps _ (List.mem_of_getElem? e0))
      rcases List.mem_cons.mp ha with rfl | ha
      · exact .inl (fps _ (List.mem_of_getElem? e1))
      · rw [List.mem_singleton.mp ha]; exact .inl (fps _ (List.mem_of_getElem? e2)))
    have inv8 := inv.turn h4 c0' c1 c2 hij ea eb (l := if (sd6 va vb).getD ld false then va else vb) (r := if (sd6 va vb).getD ld false then vb else va) (by
      cases (sd6 va vb).getD ld false
      · exact .inr ⟨rfl, rfl⟩
      · exact .inl ⟨rfl, rfl⟩) (sd_dir va vb ld hld)
    clear K8 y0 y2 x0 x1 x2 z0 z1 z2 X
    obtain ⟨pp, d, nn, qs, s, s1, s2, rfl, ap, ad, rq⟩ := y1
    have hcut : (Chip.cutR (tI r1.length nu) (tJ r1.length nu) r1).length ≤ 100 := by
      have := Chip.cutR_len hij htj; omega
    have hf1 := hf3 f1 (List.mem_of_getElem? g1')
    have hvl := hf.length
    refine body_f hA (by omega) (by omega) sta8.G aF7 sta8.c2 sta8.aP sta8.af hf (by omega) hPf ap ad rq (short_pcs _ hcut) g1' (by omega) e1 hpl tb18 tb28 ?_
    intro h9 g9 tk9 ps1' ps2' K9 G9 tb19 tb29 gs9
    rw [show (B4 w).drop 6 = [] from by kernel_rfl]
    have kn : ∀ a ∈ ([63, 70] : List Addr), ∀ o, h8.get? a = some o → o.cls = .none := kind2 tb18.1.1 rfl tb28.1.1 rfl
    refine wpAny_pure ⟨n, Nat.lt_succ_self _, t + 1, h9, g9, tk9, rfl, by omega, fun x => gs9 (gs x), trans_old KK K9 (fun a ha => .inr ha), sta8.kp G9 K9 (fun a ha o e => .inr (.inr (.inr (kn a ha o e)))), ⟨_, _, _, _, .inr ⟨_, _, _, _, rfl⟩, aF7.kp K9 (fun q => by have := kn _ q _ aF7.1; simp at this), fun _ => by simp⟩, aI8.kp K9 (fun q => by have := kn _ q _ aI8.1; simp at this), ⟨⟨_, tb19⟩, _, tb29⟩, _, pl8.kp K9 (Aside.of fun a ha o e => .inr (.inr (kn a ha o e))), inv8⟩
theorem run_e {E : Value → Shared → Prop} {Q : Flow → Shared → Prop} {h₀ h : Heap} {F P fl Pi Dr Tb : Addr} {ps hs tqs : List Addr} {vs dvs : List Value} {nP nf kh nD nT half ld en : Nat} {H : Nat → Int} {K : Nat → Tok} {hcs : List (Str × Str)} {u1 u2 : Tok} {v1 v2 : Value} {fs dns pcsR : List Nat} {rows : List (List Nat)} {ps1 ps2 : Array Value}
    (hA : A.handled = none) (hd : A.depth + 400 < recursionLimit) (hu : A.units + 600 < cLine) (h2' : 2 ≤ half) (h4 : half ≤ 4) (hp : pcsR.length = 2 * half) (hps : ps.length = 2 * half + 1) (hf : NatsAre vs fs) (hfl : fs.length = 2 * half + 1) (hf3 : ∀ f ∈ fs, f < 3)
    (hD : NatsAre dvs dns) (hDl : dvs.length ≤ 100) (hD0 : 0 < dvs.length) (hDb : ∀ x ∈ dns, x < 2 ^ 60) (hPf : P ≠ fl) (hld : ld < 4) (fF : h₀.get? F = none) (fps : ∀ p ∈ ps, h₀.get? p = none)
    (K0 : Kp [63, 70] h₀ h) (sta : Sta w h F P fl Pi Dr Tb ps hs tqs vs dvs nP nf kh nD nT hcs) (aF : At w h F (frL H K (run2 half ld u1 u2 Pi Dr fl v1 v2) en)) (pl : Pl w h ps fs rows) (inv : Chip.Inv half (decide (2 ≤ ld)) pcsR 0 rows) (tb1 : TbA w h 63 ps1) (tb2 : TbA w h 70 ps2)
    (k' : ∀ h' g' tk' it, (AllBare g → AllBare g') → Kp [63, 70] h₀ h' → h₀.get? it = none → Lp w h' F P fl Pi Dr Tb it ps hs tqs vs dvs nP nf kh nD nT half ld hcs u1 u2 v1 v2 fs pcsR (Chip.turns half) 0 → wpAny (model pw w) A (execs ((B176 w).drop 5) (E176 w F)) Q E ⟨h', g', dr, tk', os⟩) :
    wpAny (model pw w) A (execs ((B176 w).drop 4) (E176 w F)) Q E ⟨h, g, dr, tk, os⟩ := by
  obtain ⟨Z, D⟩ : ∃ Z, Rep (KTw w) h [F] h [(F, frL H K (run2 half ld u1 u2 Pi Dr fl v1 v2) en)] Z := Rep.initC (T := [(F, frL H K (run2 half ld u1 u2 Pi Dr fl v1 v2) en)]) sta.G (oc aF on) (by kernel_rfl)
  have b1 : (half : Int) * ((half : Int) + 1) ≤ 1000 := by
    have : half = 2 ∨ half = 3 ∨ half = 4 := by omega
    rcases this with rfl | rfl | rfl <;> decide
  have b0 : 0 ≤ (half : Int) * ((half : Int) + 1) := Int.mul_nonneg (by omega) (by omega)
  have hN : Chip.turns half ≤ 30 := by
    have : half = 2 ∨ half = 3 ∨ half = 4 := by omega
    rcases this with rfl | rfl | rfl <;> decide
  refine atCut 1 ?_
  refine top_execs (R := fun _ _ => True) ?_
  intro θ
  refine eng 15 72058693549555712 (by exact hA) D (by kernel_rfl) ?_
  intro χ1 h1 D1
  refine hook2 (fun u v => .call (.builtin "int.__mul__") ⟨[.int (half : Nat) u, .int ((half : Nat) + 1) v], []⟩) (by kernel_rfl) ?_
  intro x1 y1
  refine mul_spec (by omega) (by omega) ?_
  intro tk2 v2'
  refine eng 4 65536 (by exact hA) D1 (by kernel_rfl) ?_
  intro χ2 h2 D2
  refine hook2 (fun u v => .call (.builtin "int.__mul__") ⟨[.int 2 u, .int (half : Nat) v], []⟩) (by kernel_rfl) ?_
  intro x3 y3
  refine mul_spec (by omega) (by omega) ?_
  intro tk4 v4
  refine eng 7 0 (by exact hA) D2 (by kernel_rfl) ?_
  intro χ5 h5 D5
  refine hook2 (fun u v => .call (.builtin "int.__mul__") ⟨[.int ((half : Nat) * ((half : Nat) + 1)) u, .int (2 * (half : Nat) + 1) v], []⟩) (by kernel_rfl) ?_
  intro x6 y6
  refine mul_spec b0 b1 ?_
  intro tk7 v7
  refine eng 2 0 (by exact hA) D5 (by kernel_rfl) ?_
  intro χ8 h8 D8
  refine hook2 (fun u v => .call (.builtin "int.__floordiv__") ⟨[.int ((half : Nat) * ((half : Nat) + 1) * (2 * (half : Nat) + 1)) u, .int 6 v], []⟩) (by kernel_rfl) ?_
  intro x9 y9
  refine floordiv_spec (half * (half + 1) * (2 * half + 1)) 6 (by push_cast; rfl) rfl (by decide) (by decide) ?_
  intro tk10 v10
  refine eng 22 375605920794043379226625507221544951242280094662656 (by exact hA) D8 (by kernel_rfl) ?_
  intro χ11 h11 D11
  refine eng2 "special-get-raises" 1 0 1 0 (by exact hA) D11 (by kernel_rfl) ?_
  intro χ12 h12 D12
  refine hook (c' := .call (.builtin "range.__iter__") ⟨[.ref (adrAt χ12.T 0)], []⟩) (by kernel_rfl) ?_
  refine riter_spec (n := Chip.turns half) (t := fdT (objAt χ12.T 0) 0) (u := v10) (v := fdT (objAt χ12.T 0) 2) D12.gd (D12.at_ (a := adrAt χ12.T 0) (o := rgO 0 (Chip.turns half : Nat) (fdT (objAt χ12.T 0) 0) v10 (fdT (objAt χ12.T 0) 2)) 0 (by kernel_rfl)) (by omega) ?_
  intro h13 it K13 aI fI
  refine Exists.elim ((D12.plus K13 aI fI).ex) ?_
  intro Z13 D13
  refine eng 1 1 (by exact hA) D13 (by kernel_rfl) ?_
  intro χ14 h14 D14
  refine hook (c' := .forLoop (foT ((B176 w).drop 4)) (.ref it) (B4 w) (foO ((B176 w).drop 4)) (E176 w F)) (by kernel_rfl) ?_
  have KL : Kp [] h h14 := Rep.kpF 2 [true] D D14 (by kernel_rfl)
  have KK := trans_old K0 KL (fun _ q => absurd q (nin0 _))
  have aI14 := D14.at_ (a := it) (o := riO 0 (Chip.turns half : Nat)) 0 (by kernel_rfl)
  have fI' := K0.fresh (D14.fresh_ (a := it) (o := riO 0 (Chip.turns half : Nat)) 0 (by kernel_rfl) (nin1 (D14.apart (a := it) (o := riO 0 (Chip.turns half : Nat)) (b := F) (o' := objAt χ14.T 2) 0 2 (by kernel_rfl))))
  have L0 : Lp w h14 F P fl Pi Dr Tb it ps hs tqs vs dvs nP nf kh nD nT half ld hcs u1 u2 v1 v2 fs pcsR 0 (Chip.turns half) :=
    ⟨sta.kp D14.gd KL turns0, ⟨[], H, K, en, .inl rfl, by rw [List.append_nil]; exact aF.kp KL (nin0 _), fun z => absurd rfl z⟩, aI14, ⟨⟨_, tb1.kp KL (nin0 _)⟩, _, tb2.kp KL (nin0 _)⟩, rows, pl.kp KL aside0, inv⟩
  refine main_loop (ac_handled hA) (depL (b := A.depth) 0 (by kernel_rfl) hd rfl) (depL (b := A.units) 0 (by kernel_rfl) hu rfl) h2' h4 hp hps hf hfl hf3 hD hDl hD0 hDb hPf hld fF fI' fps KK L0 ?_
  intro h15 g15 tk15 gs KK15 L15
  refine finQ (f := .done .next) (by kernel_rfl) ?_
  exact k' h15 g15 tk15 it gs KK15 fI' L15
theorem hk_fun {prog : Program} {s : Shared} {id : String} {b : Builtin} {args : List Value} (hk : builtinKind id = none) (hp : plainId id = true) (hb : entryFor table id = some b) (ha : argsOk id ⟨args, []⟩)
    (hc : wpAny (model prog w) A.in1 (b ⟨args, []⟩) (fun fin s' => ∃ v, fin = .done (.ret v) ∧ R (.ok (.ret v)) s') (fun e s' => R (.error e) s') s) : codeAny (model prog w) A (.call (.builtin id) ⟨args, []⟩) R s := by
  refine codeAny_call_builtin hp hb ?_
  have hfin := wpAny_mono hc (Q' := fun fin s' => match fin with
      | .done f => R (.ok f) s'
      | .again c' => c'.quiet = true ∧ codeAny (model prog w) A c' R s')
    (fun fin s' h' => by obtain ⟨v, rfl, hv⟩ := h'; exact hv) fun _ _ h' => h'
  simp only [checkBuiltinCall, hk]
  cases hsig : Manifest.signature? id with
  | none => exact wpAny_pure hfin
  | some sig =>
    simp only [argsOk, hsig] at ha
    have h2 : Bind.checkArgs id sig ⟨args, []⟩ = pure () := ha
    simp only [h2]
    exact wpAny_pure hfin
theorem sorted_spec {l : Addr} {vs : List Value} {ns : List Nat} {n : Nat} (G : Gd w h) (hl : At w h l (lstX vs.toArray n)) (hI : NatsAre vs ns) (h64 : vs.length < 64)
    (k : ∀ h' q out n' ns', Kp [] h h' → At w h' q (lstX out.toArray n') → h.get? q = none → NatsAre out ns' → ns'.Perm ns → ns'.Pairwise (· ≤ ·) → R (.ok (.ret (.ref q))) ⟨h', g, dr, tk, os⟩) :
    codeAny (model pw w) A (.call (.builtin "sorted") ⟨[.ref l], []⟩) R ⟨h, g, dr, tk, os⟩ := by
  have hIs : h.IsList l vs.toArray := ⟨_, hl.1, rfl, n, rfl⟩
  refine hk_fun kind_sorted plain_sorted entry_sorted (args_sorted1 _) ?_
  unfold Builtin.«sorted»
  refine wpAny_bind (m := checkCount "sorted" 1 1 _) (wpAny_pure ?_)
  refine wpAny_bind (collect_list hIs ?_ (by simp only [sizeLine]; omega))
  refine wpAny_bind (wpAny_newList ?_ (by simp only [List.size_toArray, sizeLine]; omega))
  have hsz : ((h.push (seqObj "list" #[] 0)).update h.objs.size (Obj.mapSeq (· ++ vs.toArray))).objs.size = h.objs.size + 1 := by
    rw [Heap.size_update, size_push']
  have hoL : (((h.push (seqObj "list" #[] 0)).update h.objs.size (Obj.mapSeq (· ++ vs.toArray))).push (seqObj "list" vs.toArray 0)).get? (h.objs.size + 1) = some (seqObj "list" vs.toArray 0) := by
    rw [← hsz]; exact Heap.get?_push_size _ rfl
  show wpAny _ _ _ _ _ { heap := ((h.push (seqObj "list" #[] 0)).update h.objs.size (Obj.mapSeq (· ++ vs.toArray))).push (seqObj "list" vs.toArray 0), gens := g, drawn := dr, toks := tk, os := os }
  rw [hsz]
  refine wpAny_bind (wpAny_holding (wpAny_call_entry slot_list_sort ⟨_, hoL, rfl⟩ entry_list_sort (list_sort_tree hoL hI.ints h64 fun out ns' a1 a2 a3 => ⟨_, rfl, ?_⟩) (args_list_sort _)))
  refine wpAny_pure ⟨_, rfl, ?_⟩
  obtain ⟨e, he⟩ := sortedAll_at h vs out
  have hN : ∃ ms : List Nat, ns' = ms.map (fun n : Nat => (n : Int)) ∧ ms.Perm ns := by
    refine ⟨ns'.map Int.toNat, ?_, ?_⟩
    · have : ∀ x ∈ ns', 0 ≤ x := fun x hx => by
        obtain ⟨y, _, rfl⟩ := List.mem_map.mp (a2.mem_iff.mp hx)
        exact Int.natCast_nonneg y
      rw [List.map_map]
      conv => lhs; rw [← List.map_id ns']
      refine List.map_congr_left fun x hx => ?_
      exact (Int.toNat_of_nonneg (this x hx)).symm
    · have := a2.map Int.toNat
      rw [List.map_map] at this
      have e : ns.map (Int.toNat ∘ fun n : Nat => (n : Int)) = ns := by
        conv => rhs; rw [← List.map_id ns]
        exact List.map_congr_left fun x _ => by simp
      rw [e] at this
      exact this
  obtain ⟨ms, rfl, hperm⟩ := hN
  have e2 : (seqObj "list" out e) = lstX out.toList.toArray e := by simp [seqObj]
  have hk : Kp [] h (sortedAll h vs out) := ⟨fun b o x => ⟨o, sortedAll_old x⟩, fun b o x _ => sortedAll_old x⟩
  refine k (sortedAll h vs out) (h.objs.size + 1) out.toList e ms hk ⟨by rw [← e2]; exact he, ?_⟩ ?_ (NatsAre.of_ints a1) hperm ?_
  · refine off_fresh (h := h) G ?_
    cases q : h.get? (h.objs.size + 1) with
    | none => rfl
    | some o => exact absurd (Heap.lt_size q) (Nat.not_lt.mpr (Nat.le_succ _))
  · cases q : h.get? (h.objs.size + 1) with
    | none => rfl
    | some o => exact absurd (Heap.lt_size q) (Nat.not_lt.mpr (Nat.le_succ _))
  · refine (List.pairwise_map.mp a3).imp ?_
    intro a b x; omega
abbrev run7 (half ld : Nat) (u1 u2 : Tok) (Pi Dr fl : Addr) (v1 v2 a b c d : Value) (rk : Addr) : List (Str × Value) := run6 half ld u1 u2 Pi Dr fl v1 v2 a b c d ++ ([("ranks", .ref rk)] : List (Str × Value))
theorem run_f {E : Value → Shared → Prop} {Q : Flow → Shared → Prop} {F Pi Dr fl Tb : Addr} {H : Nat → Int} {K : Nat → Tok} {half ld en kh nT : Nat} {u1 u2 : Tok} {v1 v2 va vb vc vd : Value} {hs tqs : List Addr} {rks : List Nat}
    (hA : A.handled = none) (hu : A.units + 300 < cLine) (G : Gd w h) (aF : At w h F (frL H K (run6 half ld u1 u2 Pi Dr fl v1 v2 va vb vc vd) en)) (aC : At w h (F + 1) (cellO (.ref Tb))) (ah : At w h Pi (lstO (hs.map .ref) kh)) (aT : At w h Tb (lstO (tqs.map .ref) nT)) (rT : Row w h tqs pcs) (rh : Row w h hs (rks.map pc)) (h8 : ∀ n ∈ rks, n < 8) (hl : hs.length ≤ 8)
    (k' : ∀ h' tk' H' K' en' rk nr out ns, Kp [F] h h' → Gd w h' → At w h' F (frL H' K' (run7 half ld u1 u2 Pi Dr fl v1 v2 va vb vc vd rk) en') → At w h' rk (lstX out.toArray nr) → h.get? rk = none → NatsAre out ns → ns.Perm rks → ns.Pairwise (· ≤ ·) → wpAny (model pw w) A (execs ((B176 w).drop 6) (E176 w F)) Q E ⟨h', g, dr, tk', os⟩) :
    wpAny (model pw w) A (execs ((B176 w).drop 5) (E176 w F)) Q E ⟨h, g, dr, tk, os⟩ := by
  obtain ⟨Z, D⟩ : ∃ Z, Rep (KTw w) h [F, F + 1, Pi] h [(F, frL H K (run6 half ld u1 u2 Pi Dr fl v1 v2 va vb vc vd) en), (F + 1, cellO (.ref Tb)), (Pi, lstO (hs.map .ref) kh)] Z := Rep.initC (T := [(F, frL H K (run6 half ld u1 u2 Pi Dr fl v1 v2 va vb vc vd) en), (F + 1, cellO (.ref Tb)), (Pi, lstO (hs.map .ref) kh)]) G (oc aF (oc aC (oc ah on))) (by kernel_rfl)
  refine atCut 1 ?_
  refine top_execs (R := fun _ _ => True) ?_
  intro θ
  refine eng 9 55556406102754066432 (by exact hA) D (by kernel_rfl) ?_
  intro χ1 h1 D1
  refine eng2 "special-get-raises" 1 0 1 0 (by exact hA) D1 (by kernel_rfl) ?_
  intro χ2 h2 D2
  refine eng 8 1099511628544 (by exact hA) D2 (by kernel_rfl) ?_
  intro χ3 h3 D3
  refine hook (c' := .compStart (ixE ⟨102, 20, 102, 25⟩ ⟨102, 20, 102, 31⟩ ⟨102, 32, 102, 37⟩ ⟨102, 20, 102, 38⟩ ⟨102, 43, 102, 48⟩ ⟨102, 19, 102, 59⟩ (.Name "pieces" ⟨102, 52, 102, 58⟩)) 0 (.ref (adrAt χ3.T 2)) (.ref (adrAt χ3.T 1)) (cEnvAt ixS (adrAt χ3.T 0) [("table", F + 1)] (fdOf (slook (KTw w) 176)) F)) (by kernel_rfl) ?_
  have K3 : Kp [] h h3 := Rep.kpF 3 [true, true, true] D D3 (by kernel_rfl)
  have q0 := D3.at_ (a := adrAt χ3.T 0) (o := nsO #[] 0) 0 (by kernel_rfl)
  have q1 := D3.at_ (a := adrAt χ3.T 1) (o := lstX #[] 0) 1 (by kernel_rfl)
  have q2 := D3.at_ (a := adrAt χ3.T 2) (o := liO (.ref Pi) (.int 0 0)) 2 (by kernel_rfl)
  have fA := D3.fresh_ (a := adrAt χ3.T 1) (o := lstX #[] 0) 1 (by kernel_rfl) (nin3 (D3.apart (a := adrAt χ3.T 1) (o := lstX #[] 0) (b := F) (o' := objAt χ3.T 3) 1 3 (by kernel_rfl)) (D3.apart (a := adrAt χ3.T 1) (o := lstX #[] 0) (b := F + 1) (o' := objAt χ3.T 4) 1 4 (by kernel_rfl)) (D3.apart (a := adrAt χ3.T 1) (o := lstX #[] 0) (b := Pi) (o' := objAt χ3.T 5) 1 5 (by kernel_rfl)))
  have hlr : hs.length = rks.length := by rw [rh.length, List.length_map]
  have a3 := ah.kp K3 (nin0 _)
  refine comp_ix (so := lstO (hs.map .ref) kh) (src := Pi) (ns0 := kh) (vs := hs.map .ref) (C := F + 1) (Tb := Tb) (tqs := tqs) (nT := nT) (qs := hs) (rks := rks) (ns := rks) (ti := 0) (ac_handled hA) (depL (b := A.units) 0 (by kernel_rfl) hu rfl) hlr h8 rfl ⟨0, rfl, rfl⟩ (by simp; omega) D3.gd q0 q1 q2 a3 (nin3 (ne_of_cls a3.1 q0.1 (by kernel_rfl)) (Ne.symm (old_ne ah.1 fA)) (ne_of_cls a3.1 q2.1 (by kernel_rfl))) (aC.kp K3 (nin0 _)) (aT.kp K3 (nin0 _)) (rT.kp0 K3) (Ne.symm (old_ne aT.1 fA)) (rh.kp0 K3) ?_
  intro h4 tk4 es4 en4 na4 v4 zs K4 G4 o4 c0 hz c1 c2
  refine Exists.elim (D3.turnL [(0, nsO es4 en4), (1, lstX zs.toArray na4), (2, liO .none v4)] K4 (by kernel_rfl) (by kernel_rfl) (all3 c0.1 c1.1 c2.1)) ?_
  intro Z4 D4
  have hzl := hz.length
  rcases o4 with rfl | ⟨x4, y4, z4, rfl⟩
  · skip
    refine eng 2 1 (by exact hA) D4 (by kernel_rfl) ?_
    intro χ5 h5 D5
    refine hook (c' := .call (.builtin "sorted") ⟨[.ref (adrAt χ3.T 1)], []⟩) (by kernel_rfl) ?_
    refine sorted_spec (n := na4) D5.gd (D5.at_ (a := adrAt χ3.T 1) (o := lstX zs.toArray na4) 1 (by kernel_rfl)) hz (by omega) ?_
    intro h6 rk out nr ns K6 ark frk hns hperm hpw
    refine Exists.elim ((D5.plus K6 ark frk).ex) ?_
    intro Z6 D6
    refine eng 8 1412872441692160 (by exact hA) D6 (by kernel_rfl) ?_
    intro χ7 h7 D7
    refine finQ (f := .done .next) (by kernel_rfl) ?_
    have K7 : Kp [F] h h7 := Rep.kpF 4 [false, true, true] D D7 (by kernel_rfl)
    exact k' h7 _ (eHi (objAt χ7.T 4)) (eKi (objAt χ7.T 4)) (eNd (objAt χ7.T 4)) rk nr out ns K7 D7.gd (D7.at_ 4 (by kernel_rfl)) (D7.at_ 0 (by kernel_rfl)) (D5.keep.fresh frk) hns hperm hpw
  · skip
    refine eng 6 16842753 (by exact hA) D4 (by kernel_rfl) ?_
    intro χ5 h5 D5
    refine hook (c' := .call (.builtin "sorted") ⟨[.ref (adrAt χ3.T 1)], []⟩) (by kernel_rfl) ?_
    refine sorted_spec (n := na4) D5.gd (D5.at_ (a := adrAt χ3.T 1) (o := lstX zs.toArray na4) 1 (by kernel_rfl)) hz (by omega) ?_
    intro h6 rk out nr ns K6 ark frk hns hperm hpw
    refine Exists.elim ((D5.plus K6 ark frk).ex) ?_
    intro Z6 D6
    refine eng 8 1412872441692160 (by exact hA) D6 (by kernel_rfl) ?_
    intro χ7 h7 D7
    refine finQ (f := .done .next) (by kernel_rfl) ?_
    have K7 : Kp [F] h h7 := Rep.kpF 4 [false, true, true] D D7 (by kernel_rfl)
    exact k' h7 _ (eHi (objAt χ7.T 4)) (eKi (objAt χ7.T 4)) (eNd (objAt χ7.T 4)) rk nr out ns K7 D7.gd (D7.at_ 4 (by kernel_rfl)) (D7.at_ 0 (by kernel_rfl)) (D5.keep.fresh frk) hns hperm hpw
theorem run_g {E : Value → Shared → Prop} {Q : Flow → Shared → Prop} {F Pi Dr fl rk : Addr} {H : Nat → Int} {K : Nat → Tok} {half ld en nr : Nat} {u1 u2 : Tok} {v1 v2 va vb vc vd : Value} {out : List Value} {ns : List Nat}
    (hA : A.handled = none) (G : Gd w h) (aF : At w h F (frL H K (run7 half ld u1 u2 Pi Dr fl v1 v2 va vb vc vd rk) en)) (ar : At w h rk (lstX out.toArray nr)) (hn : NatsAre out ns) (hl : out.length ≤ 100)
    (k' : ∀ h' tk' H' K' en' rk' nr' out', Kp [F] h h' → Gd w h' → At w h' F (frL H' K' (run7 half ld u1 u2 Pi Dr fl v1 v2 va vb vc vd rk') en') → At w h' rk' (lstX out'.toArray nr') → NatsAre out' (if 1 < ld then ns.reverse else ns) → wpAny (model pw w) A (execs ((B176 w).drop 7) (E176 w F)) Q E ⟨h', g, dr, tk', os⟩) :
    wpAny (model pw w) A (execs ((B176 w).drop 6) (E176 w F)) Q E ⟨h, g, dr, tk, os⟩ := by
  obtain ⟨Z, D⟩ : ∃ Z, Rep (KTw w) h [F, rk] h [(F, frL H K (run7 half ld u1 u2 Pi Dr fl v1 v2 va vb vc vd rk) en), (rk, lstX out.toArray nr)] Z := Rep.initC (T := [(F, frL H K (run7 half ld u1 u2 Pi Dr fl v1 v2 va vb vc vd rk) en), (rk, lstX out.toArray nr)]) G (oc aF (oc ar on)) (by kernel_rfl)
  refine atCut 1 ?_
  refine top_execs (R := fun _ _ => True) ?_
  intro θ
  refine eng 5 65536 (by exact hA) D (by kernel_rfl) ?_
  intro χ1 h1 D1
  refine eng2 "special-get-raises" 1 0 1 0 (by exact hA) D1 (by kernel_rfl) ?_
  intro χ2 h2 D2
  refine hook2 (fun u v => .call (.builtin "int.__gt__") ⟨[.int (ld : Nat) u, .int 1 v], []⟩) (by kernel_rfl) ?_
  intro x1 y1
  by_cases hb : 1 < ld
  case neg =>
    rw [if_neg hb] at k'
    refine gtI_spec false (by rw [decide_eq_false_iff_not]; omega) ?_
    intro tk2
    refine finQ (f := .done .next) (by kernel_rfl) ?_
    have K2 : Kp [] h h2 := Rep.kpF 0 [true, true] D D2 (by kernel_rfl)
    exact k' h2 _ H K en rk nr out (K2.weak (by simp)) D2.gd (D2.at_ 0 (by kernel_rfl)) (D2.at_ 1 (by kernel_rfl)) hn
  case pos =>
    rw [if_pos hb] at k'
    refine gtI_spec true (by rw [decide_eq_true_eq]; omega) ?_
    intro tk2
    refine eng 14 61085841753527268319828560117760 (by exact hA) D2 (by kernel_rfl) ?_
    intro χ2 h2 D2
    refine hook (c' := .call (.builtin "list.__getitem__") ⟨[.ref rk, .ref (adrAt χ2.T 0)], []⟩) (by kernel_rfl) ?_
    refine getslice_lst (n := nr) (xs := out.toArray) (vl := .none) (vu := .none) (vs := .int (-1) (fdT (objAt χ2.T 0) 2)) (ac_handled hA) (D2.two 2 0 (by kernel_rfl) (by kernel_rfl) rfl) .none .none (.int _ _) (by simp) (by simp; omega) ?_
    intro h3 tk3 q3 K3 aq fq
    rw [krv_pick] at aq
    refine Exists.elim ((D2.plus (o := lstX out.reverse.toArray 0) K3 aq fq).ex) ?_
    intro Z3 D3
    refine eng 8 847723465015296 (by exact hA) D3 (by kernel_rfl) ?_
    intro χ4 h4 D4
    refine finQ (f := .done .next) (by kernel_rfl) ?_
    have K4 : Kp [F] h h4 := Rep.kpF 2 [false, true] D D4 (by kernel_rfl)
    exact k' h4 _ (eHi (objAt χ4.T 2)) (eKi (objAt χ4.T 2)) (eNd (objAt χ4.T 2)) q3 0 out.reverse K4 D4.gd (D4.at_ 2 (by kernel_rfl)) (D4.at_ 0 (by kernel_rfl)) hn.reverse
abbrev run8 (half ld : Nat) (u1 u2 : Tok) (Pi Dr fl : Addr) (v1 v2 a b c d : Value) (rk ed : Addr) : List (Str × Value) := run7 half ld u1 u2 Pi Dr fl v1 v2 a b c d rk ++ ([("ends", .ref ed)] : List (Str × Value))
theorem LsAre.app {zs zs2 : List Value} {r r2 : List (List Nat)} (x : LsAre w h zs r) (y : LsAre w h zs2 r2) : LsAre w h (zs ++ zs2) (r ++ r2) := by
  induction x with
  | nil => exact y
  | cons a _ ih => exact .cons a ih
theorem LsAre.length {zs : List Value} {r : List (List Nat)} (x : LsAre w h zs r) : zs.length = r.length := by
  induction x with
  | nil => rfl
  | cons _ _ ih => simp [ih]
theorem Rep.fresh_n {kt : KT} {h h' : Heap} {ks : List Addr} {T : DT} {Z : Nat} {a : Addr} {o : Obj} (D : Rep kt h ks h' T Z) (j n : Nat) (hj : HasAt T j a o) (hn : Nat.blt j n = true) (e : (T.drop n).map (·.1) = ks) : h.get? a = none := by
  replace hj := nth_eq hj
  refine (D.new _ (List.mem_of_getElem? hj)).resolve_left fun q => ?_
  have hn : j < n := Nat.le_of_ble_eq_true hn
  rw [← e, List.map_drop] at q
  obtain ⟨i, hi, ei⟩ := List.mem_iff_getElem.mp q
  rw [List.getElem_drop] at ei
  obtain ⟨hl, ej⟩ := List.getElem?_eq_some_iff.mp hj
  have h1 : (T.map (·.1))[j]'(by simpa using hl) = a := by simp [ej]
  have := (List.getElem_inj D.nd).mp (ei.trans h1.symm)
  omega
def NoLs (h : Heap) (ks : List Addr) : Prop := ∀ a ∈ ks, ∀ o, h.get? a = some o → o.cls ≠ .type "list" ∧ o.cls ≠ .type "tuple"
theorem LsAre.kp {h h' : Heap} {ks : List Addr} {zs : List Value} {r : List (List Nat)} (x : LsAre w h zs r) (K : Kp ks h h') (n : NoLs h ks) : LsAre w h' zs r := by
  induction x with
  | nil => exact .nil
  | cons a _ ih =>
    refine .cons (a.kpc K (fun q => ?_) fun b hb o e => (n b hb o e).2) ih
    obtain ⟨_, _, al, _⟩ := a
    exact (n _ q _ al.1).1 rfl
theorem run_h {E : Value → Shared → Prop} {Q : Flow → Shared → Prop} {F Pi Dr fl rk Tb : Addr} {H : Nat → Int} {K : Nat → Tok} {half ld en nr nT : Nat} {u1 u2 : Tok} {v1 v2 va vb vc vd : Value} {out : List Value} {srt : List Nat} {tqs : List Addr}
    (hA : A.handled = none) (G : Gd w h) (aF : At w h F (frL H K (run7 half ld u1 u2 Pi Dr fl v1 v2 va vb vc vd rk) en)) (aC : At w h (F + 1) (cellO (.ref Tb))) (ar : At w h rk (lstX out.toArray nr)) (hn : NatsAre out srt) (hl : out.length ≤ 100) (hb8 : ∀ n ∈ srt, n < 8) (aT : At w h Tb (lstO (tqs.map .ref) nT)) (rT : Row w h tqs pcs)
    (k' : ∀ h' tk' H' K' en' ed ne zs, Kp [F] h h' → Gd w h' → At w h' F (frL H' K' (run8 half ld u1 u2 Pi Dr fl v1 v2 va vb vc vd rk ed) en') → At w h' ed (lstX zs.toArray ne) → LsAre w h' zs (Chip.ends half srt) → h.get? ed = none → wpAny (model pw w) A (execs ((B176 w).drop 8) (E176 w F)) Q E ⟨h', g, dr, tk', os⟩) :
    wpAny (model pw w) A (execs ((B176 w).drop 7) (E176 w F)) Q E ⟨h, g, dr, tk, os⟩ := by
  obtain ⟨Z, D⟩ : ∃ Z, Rep (KTw w) h [F, F + 1, rk] h [(F, frL H K (run7 half ld u1 u2 Pi Dr fl v1 v2 va vb vc vd rk) en), (F + 1, cellO (.ref Tb)), (rk, lstX out.toArray nr)] Z := Rep.initC (T := [(F, frL H K (run7 half ld u1 u2 Pi Dr fl v1 v2 va vb vc vd rk) en), (F + 1, cellO (.ref Tb)), (rk, lstX out.toArray nr)]) G (oc aF (oc aC (oc ar on))) (by kernel_rfl)
  have hol : out.toArray.size ≤ 1000 := by simp; omega
  have tl : (out.take half).length ≤ 100 := by rw [List.length_take]; omega
  have dl : (out.drop half).length ≤ 100 := by rw [List.length_drop]; omega
  refine atCut 1 ?_
  refine top_execs (R := fun _ _ => True) ?_
  intro θ
  refine eng 10 18963541138153865805824 (by exact hA) D (by kernel_rfl) ?_
  intro χ1 h1 D1
  refine hook (c' := .call (.builtin "list.__getitem__") ⟨[.ref rk, .ref (adrAt χ1.T 0)], []⟩) (by kernel_rfl) ?_
  refine getslice_lst (n := nr) (xs := out.toArray) (vl := .none) (vu := .int (half : Nat) u1) (vs := .none) (ac_handled hA) (D1.two 3 0 (by kernel_rfl) (by kernel_rfl) rfl) .none (.int _ _) .none (by simp) hol ?_
  intro h2 tk2 q2 K2 aq2 fq2
  rw [slicePick_upto'] at aq2
  refine Exists.elim ((D1.plus (o := lstX (out.take half).toArray 0) K2 aq2 fq2).ex) ?_
  intro Z2 D2
  refine eng 4 16842752 (by exact hA) D2 (by kernel_rfl) ?_
  intro χ3 h3 D3
  refine eng2 "special-get-raises" 1 0 1 0 (by exact hA) D3 (by kernel_rfl) ?_
  intro χ4 h4 D4
  refine eng 8 1099511628032 (by exact hA) D4 (by kernel_rfl) ?_
  intro χ5 h5 D5
  refine hook (c' := .compStart (trE ⟨105, 13, 105, 18⟩ ⟨105, 19, 105, 23⟩ ⟨105, 13, 105, 24⟩ ⟨105, 12, 105, 25⟩ ⟨105, 30, 105, 34⟩ ⟨105, 11, 105, 51⟩ (lcI (biL (biL (asV ((B176 w).drop 7)))))) 0 (.ref (adrAt χ5.T 2)) (.ref (adrAt χ5.T 1)) (cEnvAt trS (adrAt χ5.T 0) [("table", F + 1)] (fdOf (slook (KTw w) 176)) F)) (by kernel_rfl) ?_
  have K5 : Kp [] h h5 := Rep.kpF 5 [true, true, true] D D5 (by kernel_rfl)
  have p0 := D5.at_ (a := adrAt χ5.T 0) (o := nsO #[] 0) 0 (by kernel_rfl)
  have p1 := D5.at_ (a := adrAt χ5.T 1) (o := lstX #[] 0) 1 (by kernel_rfl)
  have p2 := D5.at_ (a := adrAt χ5.T 2) (o := liO (.ref q2) (.int 0 0)) 2 (by kernel_rfl)
  have p3 := D5.at_ (a := q2) (o := lstX (out.take half).toArray 0) 3 (by kernel_rfl)
  have fA := D5.fresh_ (a := adrAt χ5.T 1) (o := lstX #[] 0) 1 (by kernel_rfl) (nin3 (D5.apart (a := adrAt χ5.T 1) (o := lstX #[] 0) (b := F) (o' := objAt χ5.T 5) 1 5 (by kernel_rfl)) (D5.apart (a := adrAt χ5.T 1) (o := lstX #[] 0) (b := F + 1) (o' := objAt χ5.T 6) 1 6 (by kernel_rfl)) (D5.apart (a := adrAt χ5.T 1) (o := lstX #[] 0) (b := rk) (o' := objAt χ5.T 7) 1 7 (by kernel_rfl)))
  refine comp_tr (so := lstX (out.take half).toArray 0) (src := q2) (ns0 := 0) (vs := out.take half) (C := F + 1) (Tb := Tb) (tqs := tqs) (nT := nT) (ns := srt.take half) (ti := 0) (ac_handled hA) rfl ⟨hn.take half, fun n x => hb8 n (List.mem_of_mem_take x)⟩ (by omega) D5.gd p0 p1 p2 p3 (nin3 (ne_of_cls p3.1 p0.1 (by kernel_rfl)) (D5.apart (a := q2) (o := lstX (out.take half).toArray 0) (b := adrAt χ5.T 1) (o' := lstX #[] 0) 3 1 (by kernel_rfl)) (ne_of_cls p3.1 p2.1 (by kernel_rfl))) (aC.kp K5 (nin0 _)) (aT.kp K5 (nin0 _)) (rT.kp0 K5) (Ne.symm (old_ne aT.1 fA)) ?_
  intro h6 tk6 es6 en6 na6 v6 zs K6 G6 o6 c0 hz c1 c2
  refine Exists.elim (D5.turnL [(0, nsO es6 en6), (1, lstX zs.toArray na6), (2, liO .none v6)] K6 (by kernel_rfl) (by kernel_rfl) (all3 c0.1 c1.1 c2.1)) ?_
  intro Z6 D6
  have K06 : Kp [] h h6 := Rep.kpF 5 [true, true, true] D D6 (by kernel_rfl)
  have zl := hz.length
  have zl2 : zs.length ≤ 100 := by
    rw [zl, List.length_map, ← (hn.take half).length]; exact tl
  have fL1 := D5.fresh_ (a := adrAt χ5.T 0) (o := nsO #[] 0) 0 (by kernel_rfl) (nin3 (D5.apart (a := adrAt χ5.T 0) (o := nsO #[] 0) (b := F) (o' := objAt χ5.T 5) 0 5 (by kernel_rfl)) (D5.apart (a := adrAt χ5.T 0) (o := nsO #[] 0) (b := F + 1) (o' := objAt χ5.T 6) 0 6 (by kernel_rfl)) (D5.apart (a := adrAt χ5.T 0) (o := nsO #[] 0) (b := rk) (o' := objAt χ5.T 7) 0 7 (by kernel_rfl)))
  have kL1 : ∀ a ∈ [adrAt χ5.T 0], ∀ o, h6.get? a = some o → o.cls = .type "dict" := kind1 c0.1 rfl
  have aC6 := aC.kp K06 (nin0 _)
  have aT6 := aT.kp K06 (nin0 _)
  have rT6 := rT.kp0 K06
  rcases o6 with rfl | ⟨x6, y6, z6, rfl⟩
  · skip
    have D7 := D6.to _ rfl
    clear D6
    refine eng 10 73860159788782977025 (by exact hA) D7 (by kernel_rfl) ?_
    intro χ8 h8 D8
    refine hook (c' := .call (.builtin "list.__add__") ⟨[.ref (adrAt χ5.T 1), .ref (adrAt χ8.T 0)], []⟩) (by kernel_rfl) ?_
    have be := D8.at_ (a := adrAt χ8.T 1) (o := lstX #[] 0) 1 (by kernel_rfl)
    refine listadd_spec (vs := zs) (vs2 := [.ref (adrAt χ8.T 1)]) (n := na6) (n2 := 0) D8.gd (D8.at_ (a := adrAt χ5.T 1) (o := lstX zs.toArray na6) 3 (by kernel_rfl)).1 (D8.at_ (a := adrAt χ8.T 0) (o := lstO [.ref (adrAt χ8.T 1)] 0) 0 (by kernel_rfl)).1 (by simp only [List.length_cons, List.length_nil]; omega) ?_
    intro h9 q9 K9 aq9 fq9
    refine Exists.elim ((D8.plus K9 aq9 fq9).ex) ?_
    intro Z9 D9
    refine eng 10 56890623414487367614464 (by exact hA) D9 (by kernel_rfl) ?_
    intro χ10 h10 D10
    refine hook (c' := .call (.builtin "list.__getitem__") ⟨[.ref rk, .ref (adrAt χ10.T 0)], []⟩) (by kernel_rfl) ?_
    refine getslice_lst (n := nr) (xs := out.toArray) (vl := .int (half : Nat) u1) (vu := .none) (vs := .none) (ac_handled hA) (D10.two 11 0 (by kernel_rfl) (by kernel_rfl) rfl) (.int _ _) .none .none (by simp) hol ?_
    intro h11 tk11 q11 K11 aq11 fq11
    rw [slicePick_from'] at aq11
    refine Exists.elim ((D10.plus (o := lstX (out.drop half).toArray 0) K11 aq11 fq11).ex) ?_
    intro Z11 D11
    refine eng 4 16842752 (by exact hA) D11 (by kernel_rfl) ?_
    intro χ12 h12 D12
    refine eng2 "special-get-raises" 1 0 1 0 (by exact hA) D12 (by kernel_rfl) ?_
    intro χ13 h13 D13
    refine eng 8 1099511628032 (by exact hA) D13 (by kernel_rfl) ?_
    intro χ14 h14 D14
    refine hook (c' := .compStart (trE ⟨105, 63, 105, 68⟩ ⟨105, 69, 105, 73⟩ ⟨105, 63, 105, 74⟩ ⟨105, 62, 105, 75⟩ ⟨105, 80, 105, 84⟩ ⟨105, 61, 105, 101⟩ (lcI (biR (asV ((B176 w).drop 7))))) 0 (.ref (adrAt χ14.T 2)) (.ref (adrAt χ14.T 1)) (cEnvAt trS (adrAt χ14.T 0) [("table", F + 1)] (fdOf (slook (KTw w) 176)) F)) (by kernel_rfl) ?_
    have K614 : Kp [adrAt χ5.T 0] h6 h14 := Rep.kpF 8 [false, true, true, true, true, true, true, true] D7 D14 (by kernel_rfl)
    have r0 := D14.at_ (a := adrAt χ14.T 0) (o := nsO #[] 0) 0 (by kernel_rfl)
    have r1 := D14.at_ (a := adrAt χ14.T 1) (o := lstX #[] 0) 1 (by kernel_rfl)
    have r2 := D14.at_ (a := adrAt χ14.T 2) (o := liO (.ref q11) (.int 0 0)) 2 (by kernel_rfl)
    have r3 := D14.at_ (a := q11) (o := lstX (out.drop half).toArray 0) 3 (by kernel_rfl)
    have fA2 := D14.fresh_n (a := adrAt χ14.T 1) (o := lstX #[] 0) 1 8 (by kernel_rfl) rfl (by kernel_rfl)
    have fL2 := D14.fresh_n (a := adrAt χ14.T 0) (o := nsO #[] 0) 0 8 (by kernel_rfl) rfl (by kernel_rfl)
    refine comp_tr (so := lstX (out.drop half).toArray 0) (src := q11) (ns0 := 0) (vs := out.drop half) (C := F + 1) (Tb := Tb) (tqs := tqs) (nT := nT) (ns := srt.drop half) (ti := 0) (ac_handled hA) rfl ⟨hn.drop half, fun n x => hb8 n (List.mem_of_mem_drop x)⟩ (by omega) D14.gd r0 r1 r2 r3 (nin3 (ne_of_cls r3.1 r0.1 (by kernel_rfl)) (D14.apart (a := q11) (o := lstX (out.drop half).toArray 0) (b := adrAt χ14.T 1) (o' := lstX #[] 0) 3 1 (by kernel_rfl)) (ne_of_cls r3.1 r2.1 (by kernel_rfl))) (aC6.kp K614 (fun q => by have := kL1 _ q _ aC6.1; simp at this)) (aT6.kp K614 (fun q => by have := kL1 _ q _ aT6.1; simp at this)) (rT6.kpc K614 fun a ha o e => by rw [kL1 a ha o e]; simp) (Ne.symm (old_ne aT6.1 fA2)) ?_
    intro h15 tk15 es15 en15 na15 v15 zs2 K15 G15 o15 d0 hz2 d1 d2
    refine Exists.elim (D14.turnL [(0, nsO es15 en15), (1, lstX zs2.toArray na15), (2, liO .none v15)] K15 (by kernel_rfl) (by kernel_rfl) (all3 d0.1 d1.1 d2.1)) ?_
    intro Z15 D15
    have K615 : Kp [adrAt χ5.T 0] h6 h15 := Rep.kpF 8 [false, true, true, true, true, true, true, true] D7 D15 (by kernel_rfl)
    have hz15 := hz.kp K615 (fun a ha o e => by rw [kL1 a ha o e]; exact ⟨by simp, by simp⟩)
    have be15 := D15.at_ (a := adrAt χ8.T 1) (o := lstX #[] 0) 7 (by kernel_rfl)
    have bF15 := D15.at_ (a := F) (o := frL H K (run7 half ld u1 u2 Pi Dr fl v1 v2 va vb vc vd rk) en) 13 (by kernel_rfl)
    have hL15 : LsAre w h15 ((zs ++ [.ref (adrAt χ8.T 1)]) ++ zs2) (Chip.ends half srt) := (hz15.app (.cons ⟨[], 0, be15, .nil⟩ .nil)).app hz2
    have zl3 : zs2.length ≤ 100 := by
      rw [hz2.length, List.length_map, ← (hn.drop half).length]; exact dl
    have D16 := D15.to _ rfl
    clear D15
    have K015 : Kp [] h h15 := K06.trans K615 fun x o e q => by
      rw [List.mem_singleton.mp q, fL1] at e; cases e
    rcases o15 with rfl | ⟨x15, y15, z15, rfl⟩
    · skip
      refine eng 6 25803751425 (by exact hA) D16 (by kernel_rfl) ?_
      intro χ17 h17 D17
      refine hook (c' := .call (.builtin "list.__add__") ⟨[.ref q9, .ref (adrAt χ14.T 1)], []⟩) (by kernel_rfl) ?_
      refine listadd_spec (vs := zs ++ [.ref (adrAt χ8.T 1)]) (vs2 := zs2) (n := 0) (n2 := na15) D17.gd (D17.at_ (a := q9) (o := lstO (zs ++ [.ref (adrAt χ8.T 1)]) 0) 5 (by kernel_rfl)).1 (D17.at_ (a := adrAt χ14.T 1) (o := lstX zs2.toArray na15) 1 (by kernel_rfl)).1 (by simp only [List.length_append, List.length_cons, List.length_nil]; omega) ?_
      intro h18 q18 K18 aq18 fq18
      refine Exists.elim ((D17.plus K18 aq18 fq18).ex) ?_
      intro Z18 D18
      refine eng 8 4238617325076480 (by exact hA) D18 (by kernel_rfl) ?_
      intro χ19 h19 D19
      refine finQ (f := .done .next) (by kernel_rfl) ?_
      have K20 : Kp [adrAt χ14.T 0, F] h15 h19 := Rep.kpF 1 [false, true, true, true, true, true, true, true, true, true, true, true, true, false, true, true] D16 D19 (by kernel_rfl)
      have kk : ∀ a ∈ [adrAt χ14.T 0, F], ∀ o, h15.get? a = some o → o.cls ≠ .type "list" ∧ o.cls ≠ .type "tuple" := kind2 d0.1 ⟨by simp, by simp⟩ bF15.1 ⟨by simp, by simp⟩
      have KF : Kp [F] h h19 := (K015.weak (ks' := [F]) (by simp)).trans K20 fun x o e q => by
        rcases List.mem_cons.mp q with rfl | q
        · rw [K06.fresh fL2] at e; cases e
        · exact q
      exact k' h19 _ (eHi (objAt χ19.T 14)) (eKi (objAt χ19.T 14)) (eNd (objAt χ19.T 14)) q18 0 _ KF D19.gd (D19.at_ 14 (by kernel_rfl)) (D19.at_ (a := q18) (o := lstO (zs ++ [.ref (adrAt χ8.T 1)] ++ zs2) 0) 0 (by kernel_rfl)) (hL15.kp K20 kk) (K015.fresh (D17.keep.fresh fq18))
    · skip
      refine eng 10 110826268480210272257 (by exact hA) D16 (by kernel_rfl) ?_
      intro χ17 h17 D17
      refine hook (c' := .call (.builtin "list.__add__") ⟨[.ref q9, .ref (adrAt χ14.T 1)], []⟩) (by kernel_rfl) ?_
      refine listadd_spec (vs := zs ++ [.ref (adrAt χ8.T 1)]) (vs2 := zs2) (n := 0) (n2 := na15) D17.gd (D17.at_ (a := q9) (o := lstO (zs ++ [.ref (adrAt χ8.T 1)]) 0) 5 (by kernel_rfl)).1 (D17.at_ (a := adrAt χ14.T 1) (o := lstX zs2.toArray na15) 1 (by kernel_rfl)).1 (by simp only [List.length_append, List.length_cons, List.length_nil]; omega) ?_
      intro h18 q18 K18 aq18 fq18
      refine Exists.elim ((D17.plus K18 aq18 fq18).ex) ?_
      intro Z18 D18
      refine eng 8 4238617325076480 (by exact hA) D18 (by kernel_rfl) ?_
      intro χ19 h19 D19
      refine finQ (f := .done .next) (by kernel_rfl) ?_
      have K20 : Kp [adrAt χ14.T 0, F] h15 h19 := Rep.kpF 1 [false, true, true, true, true, true, true, true, true, true, true, true, true, false, true, true] D16 D19 (by kernel_rfl)
      have kk : ∀ a ∈ [adrAt χ14.T 0, F], ∀ o, h15.get? a = some o → o.cls ≠ .type "list" ∧ o.cls ≠ .type "tuple" := kind2 d0.1 ⟨by simp, by simp⟩ bF15.1 ⟨by simp, by simp⟩
      have KF : Kp [F] h h19 := (K015.weak (ks' := [F]) (by simp)).trans K20 fun x o e q => by
        rcases List.mem_cons.mp q with rfl | q
        · rw [K06.fresh fL2] at e; cases e
        · exact q
      exact k' h19 _ (eHi (objAt χ19.T 14)) (eKi (objAt χ19.T 14)) (eNd (objAt χ19.T 14)) q18 0 _ KF D19.gd (D19.at_ 14 (by kernel_rfl)) (D19.at_ (a := q18) (o := lstO (zs ++ [.ref (adrAt χ8.T 1)] ++ zs2) 0) 0 (by kernel_rfl)) (hL15.kp K20 kk) (K015.fresh (D17.keep.fresh fq18))
  · skip
    have D7 := D6.to _ rfl
    clear D6
    refine eng 14 317226970770157153959616249857 (by exact hA) D7 (by kernel_rfl) ?_
    intro χ8 h8 D8
    refine hook (c' := .call (.builtin "list.__add__") ⟨[.ref (adrAt χ5.T 1), .ref (adrAt χ8.T 0)], []⟩) (by kernel_rfl) ?_
    have be := D8.at_ (a := adrAt χ8.T 1) (o := lstX #[] 0) 1 (by kernel_rfl)
    refine listadd_spec (vs := zs) (vs2 := [.ref (adrAt χ8.T 1)]) (n := na6) (n2 := 0) D8.gd (D8.at_ (a := adrAt χ5.T 1) (o := lstX zs.toArray na6) 3 (by kernel_rfl)).1 (D8.at_ (a := adrAt χ8.T 0) (o := lstO [.ref (adrAt χ8.T 1)] 0) 0 (by kernel_rfl)).1 (by simp only [List.length_cons, List.length_nil]; omega) ?_
    intro h9 q9 K9 aq9 fq9
    refine Exists.elim ((D8.plus K9 aq9 fq9).ex) ?_
    intro Z9 D9
    refine eng 10 56890623414487367614464 (by exact hA) D9 (by kernel_rfl) ?_
    intro χ10 h10 D10
    refine hook (c' := .call (.builtin "list.__getitem__") ⟨[.ref rk, .ref (adrAt χ10.T 0)], []⟩) (by kernel_rfl) ?_
    refine getslice_lst (n := nr) (xs := out.toArray) (vl := .int (half : Nat) u1) (vu := .none) (vs := .none) (ac_handled hA) (D10.two 11 0 (by kernel_rfl) (by kernel_rfl) rfl) (.int _ _) .none .none (by simp) hol ?_
    intro h11 tk11 q11 K11 aq11 fq11
    rw [slicePick_from'] at aq11
    refine Exists.elim ((D10.plus (o := lstX (out.drop half).toArray 0) K11 aq11 fq11).ex) ?_
    intro Z11 D11
    refine eng 4 16842752 (by exact hA) D11 (by kernel_rfl) ?_
    intro χ12 h12 D12
    refine eng2 "special-get-raises" 1 0 1 0 (by exact hA) D12 (by kernel_rfl) ?_
    intro χ13 h13 D13
    refine eng 8 1099511628032 (by exact hA) D13 (by kernel_rfl) ?_
    intro χ14 h14 D14
    refine hook (c' := .compStart (trE ⟨105, 63, 105, 68⟩ ⟨105, 69, 105, 73⟩ ⟨105, 63, 105, 74⟩ ⟨105, 62, 105, 75⟩ ⟨105, 80, 105, 84⟩ ⟨105, 61, 105, 101⟩ (lcI (biR (asV ((B176 w).drop 7))))) 0 (.ref (adrAt χ14.T 2)) (.ref (adrAt χ14.T 1)) (cEnvAt trS (adrAt χ14.T 0) [("table", F + 1)] (fdOf (slook (KTw w) 176)) F)) (by kernel_rfl) ?_
    have K614 : Kp [adrAt χ5.T 0] h6 h14 := Rep.kpF 8 [false, true, true, true, true, true, true, true] D7 D14 (by kernel_rfl)
    have r0 := D14.at_ (a := adrAt χ14.T 0) (o := nsO #[] 0) 0 (by kernel_rfl)
    have r1 := D14.at_ (a := adrAt χ14.T 1) (o := lstX #[] 0) 1 (by kernel_rfl)
    have r2 := D14.at_ (a := adrAt χ14.T 2) (o := liO (.ref q11) (.int 0 0)) 2 (by kernel_rfl)
    have r3 := D14.at_ (a := q11) (o := lstX (out.drop half).toArray 0) 3 (by kernel_rfl)
    have fA2 := D14.fresh_n (a := adrAt χ14.T 1) (o := lstX #[] 0) 1 8 (by kernel_rfl) rfl (by kernel_rfl)
    have fL2 := D14.fresh_n (a := adrAt χ14.T 0) (o := nsO #[] 0) 0 8 (by kernel_rfl) rfl (by kernel_rfl)
    refine comp_tr (so := lstX (out.drop half).toArray 0) (src := q11) (ns0 := 0) (vs := out.drop half) (C := F + 1) (Tb := Tb) (tqs := tqs) (nT := nT) (ns := srt.drop half) (ti := 0) (ac_handled hA) rfl ⟨hn.drop half, fun n x => hb8 n (List.mem_of_mem_drop x)⟩ (by omega) D14.gd r0 r1 r2 r3 (nin3 (ne_of_cls r3.1 r0.1 (by kernel_rfl)) (D14.apart (a := q11) (o := lstX (out.drop half).toArray 0) (b := adrAt χ14.T 1) (o' := lstX #[] 0) 3 1 (by kernel_rfl)) (ne_of_cls r3.1 r2.1 (by kernel_rfl))) (aC6.kp K614 (fun q => by have := kL1 _ q _ aC6.1; simp at this)) (aT6.kp K614 (fun q => by have := kL1 _ q _ aT6.1; simp at this)) (rT6.kpc K614 fun a ha o e => by rw [kL1 a ha o e]; simp) (Ne.symm (old_ne aT6.1 fA2)) ?_
    intro h15 tk15 es15 en15 na15 v15 zs2 K15 G15 o15 d0 hz2 d1 d2
    refine Exists.elim (D14.turnL [(0, nsO es15 en15), (1, lstX zs2.toArray na15), (2, liO .none v15)] K15 (by kernel_rfl) (by kernel_rfl) (all3 d0.1 d1.1 d2.1)) ?_
    intro Z15 D15
    have K615 : Kp [adrAt χ5.T 0] h6 h15 := Rep.kpF 8 [false, true, true, true, true, true, true, true] D7 D15 (by kernel_rfl)
    have hz15 := hz.kp K615 (fun a ha o e => by rw [kL1 a ha o e]; exact ⟨by simp, by simp⟩)
    have be15 := D15.at_ (a := adrAt χ8.T 1) (o := lstX #[] 0) 7 (by kernel_rfl)
    have bF15 := D15.at_ (a := F) (o := frL H K (run7 half ld u1 u2 Pi Dr fl v1 v2 va vb vc vd rk) en) 13 (by kernel_rfl)
    have hL15 : LsAre w h15 ((zs ++ [.ref (adrAt χ8.T 1)]) ++ zs2) (Chip.ends half srt) := (hz15.app (.cons ⟨[], 0, be15, .nil⟩ .nil)).app hz2
    have zl3 : zs2.length ≤ 100 := by
      rw [hz2.length, List.length_map, ← (hn.drop half).length]; exact dl
    have D16 := D15.to _ rfl
    clear D15
    have K015 : Kp [] h h15 := K06.trans K615 fun x o e q => by
      rw [List.mem_singleton.mp q, fL1] at e; cases e
    rcases o15 with rfl | ⟨x15, y15, z15, rfl⟩
    · skip
      refine eng 6 25803751425 (by exact hA) D16 (by kernel_rfl) ?_
      intro χ17 h17 D17
      refine hook (c' := .call (.builtin "list.__add__") ⟨[.ref q9, .ref (adrAt χ14.T 1)], []⟩) (by kernel_rfl) ?_
      refine listadd_spec (vs := zs ++ [.ref (adrAt χ8.T 1)]) (vs2 := zs2) (n := 0) (n2 := na15) D17.gd (D17.at_ (a := q9) (o := lstO (zs ++ [.ref (adrAt χ8.T 1)]) 0) 5 (by kernel_rfl)).1 (D17.at_ (a := adrAt χ14.T 1) (o := lstX zs2.toArray na15) 1 (by kernel_rfl)).1 (by simp only [List.length_append, List.length_cons, List.length_nil]; omega) ?_
      intro h18 q18 K18 aq18 fq18
      refine Exists.elim ((D17.plus K18 aq18 fq18).ex) ?_
      intro Z18 D18
      refine eng 8 4238617325076480 (by exact hA) D18 (by kernel_rfl) ?_
      intro χ19 h19 D19
      refine finQ (f := .done .next) (by kernel_rfl) ?_
      have K20 : Kp [adrAt χ14.T 0, F] h15 h19 := Rep.kpF 1 [false, true, true, true, true, true, true, true, true, true, true, true, true, false, true, true] D16 D19 (by kernel_rfl)
      have kk : ∀ a ∈ [adrAt χ14.T 0, F], ∀ o, h15.get? a = some o → o.cls ≠ .type "list" ∧ o.cls ≠ .type "tuple" := kind2 d0.1 ⟨by simp, by simp⟩ bF15.1 ⟨by simp, by simp⟩
      have KF : Kp [F] h h19 := (K015.weak (ks' := [F]) (by simp)).trans K20 fun x o e q => by
        rcases List.mem_cons.mp q with rfl | q
        · rw [K06.fresh fL2] at e; cases e
        · exact q
      exact k' h19 _ (eHi (objAt χ19.T 14)) (eKi (objAt χ19.T 14)) (eNd (objAt χ19.T 14)) q18 0 _ KF D19.gd (D19.at_ 14 (by kernel_rfl)) (D19.at_ (a := q18) (o := lstO (zs ++ [.ref (adrAt χ8.T 1)] ++ zs2) 0) 0 (by kernel_rfl)) (hL15.kp K20 kk) (K015.fresh (D17.keep.fresh fq18))
    · skip
      refine eng 10 110826268480210272257 (by exact hA) D16 (by kernel_rfl) ?_
      intro χ17 h17 D17
      refine hook (c' := .call (.builtin "list.__add__") ⟨[.ref q9, .ref (adrAt χ14.T 1)], []⟩) (by kernel_rfl) ?_
      refine listadd_spec (vs := zs ++ [.ref (adrAt χ8.T 1)]) (vs2 := zs2) (n := 0) (n2 := na15) D17.gd (D17.at_ (a := q9) (o := lstO (zs ++ [.ref (adrAt χ8.T 1)]) 0) 5 (by kernel_rfl)).1 (D17.at_ (a := adrAt χ14.T 1) (o := lstX zs2.toArray na15) 1 (by kernel_rfl)).1 (by simp only [List.length_append, List.length_cons, List.length_nil]; omega) ?_
      intro h18 q18 K18 aq18 fq18
      refine Exists.elim ((D17.plus K18 aq18 fq18).ex) ?_
      intro Z18 D18
      refine eng 8 4238617325076480 (by exact hA) D18 (by kernel_rfl) ?_
      intro χ19 h19 D19
      refine finQ (f := .done .next) (by kernel_rfl) ?_
      have K20 : Kp [adrAt χ14.T 0, F] h15 h19 := Rep.kpF 1 [false, true, true, true, true, true, true, true, true, true, true, true, true, false, true, true] D16 D19 (by kernel_rfl)
      have kk : ∀ a ∈ [adrAt χ14.T 0, F], ∀ o, h15.get? a = some o → o.cls ≠ .type "list" ∧ o.cls ≠ .type "tuple" := kind2 d0.1 ⟨by simp, by simp⟩ bF15.1 ⟨by simp, by simp⟩
      have KF : Kp [F] h h19 := (K015.weak (ks' := [F]) (by simp)).trans K20 fun x o e q => by
        rcases List.mem_cons.mp q with rfl | q
        · rw [K06.fresh fL2] at e; cases e
        · exact q
      exact k' h19 _ (eHi (objAt χ19.T 14)) (eKi (objAt χ19.T 14)) (eNd (objAt χ19.T 14)) q18 0 _ KF D19.gd (D19.at_ 14 (by kernel_rfl)) (D19.at_ (a := q18) (o := lstO (zs ++ [.ref (adrAt χ8.T 1)] ++ zs2) 0) 0 (by kernel_rfl)) (hL15.kp K20 kk) (K015.fresh (D17.keep.fresh fq18))
noncomputable abbrev B8 (w : World) : List Stmt := foB ((B176 w).drop 8)
def Pzg (pz : List (Str × Value)) : Prop := pz = [] ∨ ∃ v, pz = ([("gone", v)] : List (Str × Value))
abbrev run9 (half ld : Nat) (u1 u2 : Tok) (Pi Dr fl : Addr) (v1 v2 a b c d : Value) (rk ed : Addr) (pz : List (Str × Value)) : List (Str × Value) := run8 half ld u1 u2 Pi Dr fl v1 v2 a b c d rk ed ++ pz
theorem nd5e {a b c d e : Addr} (h : [a, b, c, d].Nodup) (n : e ∉ [a, b, c, d]) : [a, b, c, d, e].Nodup := by
  have : ([a, b, c, d] ++ [e]).Nodup := by
    refine List.nodup_append.mpr ⟨h, by simp, fun x hx y hy z => ?_⟩
    rw [List.mem_singleton.mp hy] at z
    subst z; exact n hx
  exact this
theorem ends_a {E : Value → Shared → Prop} {Q : Flow → Shared → Prop} {F P fl Pi Dr rk ed p d l : Addr} {H : Nat → Int} {K : Nat → Tok} {half ld en nP nf ne nl kk f n : Nat} {u1 u2 uk t1 t2 : Tok} {v1 v2 va vb vc : Value} {pz : List (Str × Value)} {ps qs rs : List Addr} {cs : List (Str × Str)} {vs zs : List Value} {fs : List Nat} {s : Int} {ps1 ps2 : Array Value}
    (hA : A.handled = none) (hd : A.depth + 100 < recursionLimit) (hu : A.units + 400 < cLine) (G : Gd w h) (hpz : Pzg pz) (aF : At w h F (frL H K (run9 half ld u1 u2 Pi Dr fl v1 v2 va vb vc (.int (kk : Nat) uk) rk ed pz) en)) (aC : At w h (F + 2) (cellO (.ref P))) (aP : At w h P (lstO (ps.map .ref) nP)) (af : At w h fl (lstX vs.toArray nf)) (hf : NatsAre vs fs) (hvs : vs.length ≤ 100)
    (hPf : P ≠ fl) (ap : At w h (p + 182) (accO d qs n)) (ad : At w h d (dctO s t1 (f : Nat) t2)) (rq : Row w h qs cs) (hsh : Short cs) (hfk : fs[kk]? = some f) (hf3 : f = 0 ∨ f = 1 ∨ f = 2) (hPk : ps[kk]? = some (p + 182)) (hps : ps.length ≤ 100) (ae : At w h ed (lstX zs.toArray ne)) (hzk : zs[kk]? = some (.ref l)) (hzl : zs.length ≤ 100) (hPe : P ≠ ed) (hfe : fl ≠ ed) (al : At w h l (lstO (rs.map .ref) nl)) (rr : Row w h rs cs) (ht1 : TbA w h 63 ps1) (ht2 : TbA w h 70 ps2)
    (k' : ∀ h' g' tk' ps1' ps2', Kp [63, 70] h h' → Gd w h' → TbA w h' 63 ps1' → TbA w h' 70 ps2' → (AllBare g → AllBare g') → wpAny (model pw w) A (execs ((B8 w).drop 1) (E176 w F)) Q E ⟨h', g', dr, tk', os⟩) :
    wpAny (model pw w) A (execs ((B8 w).drop 0) (E176 w F)) Q E ⟨h, g, dr, tk, os⟩ := by
  obtain ⟨tf, hv⟩ := hf.get hfk
  have nd := nd4f (ne_of_cls aF.1 aC.1 (by kernel_rfl)) (ne_of_cls aF.1 aP.1 (by kernel_rfl)) (ne_of_cls aF.1 af.1 (by kernel_rfl)) (ne_of_cls aC.1 aP.1 (by kernel_rfl)) (ne_of_cls aC.1 af.1 (by kernel_rfl)) hPf
  have nd5 := nd5e nd (nin4 (Ne.symm (ne_of_cls aF.1 ae.1 (by kernel_rfl))) (Ne.symm (ne_of_cls aC.1 ae.1 (by kernel_rfl))) (Ne.symm hPe) (Ne.symm hfe))
  rcases hpz with rfl | ⟨vg, rfl⟩
  · skip
    obtain ⟨Z, D⟩ : ∃ Z, Rep (KTw w) h [F, F + 2, P, fl, ed, 63, 70] h [(F, frL H K (run9 half ld u1 u2 Pi Dr fl v1 v2 va vb vc (.int (kk : Nat) uk) rk ed []) en), (F + 2, cellO (.ref P)), (P, lstO (ps.map .ref) nP), (fl, lstX vs.toArray nf), (ed, lstX zs.toArray ne), (63, tableObj ps1), (70, tableObj ps2)] Z := Rep.initB [(F, frL H K (run9 half ld u1 u2 Pi Dr fl v1 v2 va vb vc (.int (kk : Nat) uk) rk ed []) en), (F + 2, cellO (.ref P)), (P, lstO (ps.map .ref) nP), (fl, lstX vs.toArray nf), (ed, lstX zs.toArray ne)] G (oc aF (oc aC (oc aP (oc af (oc ae on))))) nd5 rfl ht1 ht2 rfl
    refine atCut 1 ?_
    refine top_execs (R := fun _ _ => True) ?_
    intro θ
    refine eng 11 3640999898806201155059712 (by exact hA) D (by kernel_rfl) ?_
    intro χ1 h1 D1
    refine hook2 (fun u v => .call (.builtin "list.__getitem__") ⟨[.ref P, .int (kk : Nat) v], []⟩) (by kernel_rfl) ?_
    intro y1 y2
    refine getitem_spec (v := .ref (p + 182)) (vs := ps.map Value.ref) (n := nP) (D1.at_ (a := P) (o := lstO (ps.map .ref) nP) 2 (by kernel_rfl)).1 (get_map hPk) (by simp; omega) ?_
    refine eng 8 289360674121842944 (by exact hA) D1 (by kernel_rfl) ?_
    intro χ2 h2 D2
    refine hook2 (fun u v => .call (.builtin "list.__getitem__") ⟨[.ref fl, .int (kk : Nat) v], []⟩) (by kernel_rfl) ?_
    intro y3 y4
    refine getitem_spec (v := .int (f : Nat) tf) (vs := vs) (n := nf) (D2.at_ (a := fl) (o := lstX vs.toArray nf) 3 (by kernel_rfl)).1 hv (by omega) ?_
    refine eng 8 361700842648109312 (by exact hA) D2 (by kernel_rfl) ?_
    intro χ3 h3 D3
    refine hook2 (fun u v => .call (.builtin "list.__getitem__") ⟨[.ref ed, .int (kk : Nat) v], []⟩) (by kernel_rfl) ?_
    intro y5 y6
    refine getitem_spec (v := .ref l) (vs := zs) (n := ne) (D3.at_ (a := ed) (o := lstX zs.toArray ne) 4 (by kernel_rfl)).1 hzk (by omega) ?_
    refine eng 2 0 (by exact hA) D3 (by kernel_rfl) ?_
    intro χ4 h4 D4
    refine hook (c' := .call (.ref 166) ⟨[.ref (p + 182), .int (f : Nat) tf, .ref l], []⟩) (by kernel_rfl) ?_
    have K3 : Kp [] h h4 := Rep.kpF 0 [true, true, true, true, true, true, true] D D4 (by kernel_rfl)
    refine shows_spec (d := d) (n := n) (nr := nl) (hs := s) (tk1 := t1) (tk2 := t2) (qs := qs) (rs := rs) (cs := cs) (ac_handled hA) (depL (b := A.depth) 0 (by kernel_rfl) hd rfl) (depL (b := A.units) 0 (by kernel_rfl) hu rfl) D4.gd (ap.kp K3 (nin0 _)) (ad.kp K3 (nin0 _)) (rq.kp0 K3) hsh (by omega) (al.kp K3 (nin0 _)) (rr.kp0 K3) (ht1.kp K3 (nin0 _)) (ht2.kp K3 (nin0 _)) ?_
    intro h5 g5 tk5 ps1' ps2' K5 q1 q2 gs
    refine Exists.elim (D4.turnM [(5, 63, tableObj ps1'), (6, 70, tableObj ps2')] K5 (by kernel_rfl) (by kernel_rfl) rfl (all2m q1.1.1 q2.1.1)) ?_
    intro Z5 D5
    refine eng 2 0 (by exact hA) D5 (by kernel_rfl) ?_
    intro χ6 h6 D6
    refine finQ (f := .done .next) (by kernel_rfl) ?_
    have K6 : Kp [63, 70] h h6 := Rep.kpF 0 [true, true, true, true, true, false, false] D D6 (by kernel_rfl)
    exact k' h6 g5 _ ps1' ps2' K6 D6.gd ⟨D6.at_ 5 (by kernel_rfl), q1.2⟩ ⟨D6.at_ 6 (by kernel_rfl), q2.2⟩ gs
  · skip
    obtain ⟨Z, D⟩ : ∃ Z, Rep (KTw w) h [F, F + 2, P, fl, ed, 63, 70] h [(F, frL H K (run9 half ld u1 u2 Pi Dr fl v1 v2 va vb vc (.int (kk : Nat) uk) rk ed ([("gone", vg)] : List (Str × Value))) en), (F + 2, cellO (.ref P)), (P, lstO (ps.map .ref) nP), (fl, lstX vs.toArray nf), (ed, lstX zs.toArray ne), (63, tableObj ps1), (70, tableObj ps2)] Z := Rep.initB [(F, frL H K (run9 half ld u1 u2 Pi Dr fl v1 v2 va vb vc (.int (kk : Nat) uk) rk ed ([("gone", vg)] : List (Str × Value))) en), (F + 2, cellO (.ref P)), (P, lstO (ps.map .ref) nP), (fl, lstX vs.toArray nf), (ed, lstX zs.toArray ne)] G (oc aF (oc aC (oc aP (oc af (oc ae on))))) nd5 rfl ht1 ht2 rfl
    refine atCut 1 ?_
    refine top_execs (R := fun _ _ => True) ?_
    intro θ
    refine eng 11 3640999898806201155059712 (by exact hA) D (by kernel_rfl) ?_
    intro χ1 h1 D1
    refine hook2 (fun u v => .call (.builtin "list.__getitem__") ⟨[.ref P, .int (kk : Nat) v], []⟩) (by kernel_rfl) ?_
    intro y1 y2
    refine getitem_spec (v := .ref (p + 182)) (vs := ps.map Value.ref) (n := nP) (D1.at_ (a := P) (o := lstO (ps.map .ref) nP) 2 (by kernel_rfl)).1 (get_map hPk) (by simp; omega) ?_
    refine eng 8 289360674121842944 (by exact hA) D1 (by kernel_rfl) ?_
    intro χ2 h2 D2
    refine hook2 (fun u v => .call (.builtin "list.__getitem__") ⟨[.ref fl, .int (kk : Nat) v], []⟩) (by kernel_rfl) ?_
    intro y3 y4
    refine getitem_spec (v := .int (f : Nat) tf) (vs := vs) (n := nf) (D2.at_ (a := fl) (o := lstX vs.toArray nf) 3 (by kernel_rfl)).1 hv (by omega) ?_
    refine eng 8 361700842648109312 (by exact hA) D2 (by kernel_rfl) ?_
    intro χ3 h3 D3
    refine hook2 (fun u v => .call (.builtin "list.__getitem__") ⟨[.ref ed, .int (kk : Nat) v], []⟩) (by kernel_rfl) ?_
    intro y5 y6
    refine getitem_spec (v := .ref l) (vs := zs) (n := ne) (D3.at_ (a := ed) (o := lstX zs.toArray ne) 4 (by kernel_rfl)).1 hzk (by omega) ?_
    refine eng 2 0 (by exact hA) D3 (by kernel_rfl) ?_
    intro χ4 h4 D4
    refine hook (c' := .call (.ref 166) ⟨[.ref (p + 182), .int (f : Nat) tf, .ref l], []⟩) (by kernel_rfl) ?_
    have K3 : Kp [] h h4 := Rep.kpF 0 [true, true, true, true, true, true, true] D D4 (by kernel_rfl)
    refine shows_spec (d := d) (n := n) (nr := nl) (hs := s) (tk1 := t1) (tk2 := t2) (qs := qs) (rs := rs) (cs := cs) (ac_handled hA) (depL (b := A.depth) 0 (by kernel_rfl) hd rfl) (depL (b := A.units) 0 (by kernel_rfl) hu rfl) D4.gd (ap.kp K3 (nin0 _)) (ad.kp K3 (nin0 _)) (rq.kp0 K3) hsh (by omega) (al.kp K3 (nin0 _)) (rr.kp0 K3) (ht1.kp K3 (nin0 _)) (ht2.kp K3 (nin0 _)) ?_
    intro h5 g5 tk5 ps1' ps2' K5 q1 q2 gs
    refine Exists.elim (D4.turnM [(5, 63, tableObj ps1'), (6, 70, tableObj ps2')] K5 (by kernel_rfl) (by kernel_rfl) rfl (all2m q1.1.1 q2.1.1)) ?_
    intro Z5 D5
    refine eng 2 0 (by exact hA) D5 (by kernel_rfl) ?_
    intro χ6 h6 D6
    refine finQ (f := .done .next) (by kernel_rfl) ?_
    have K6 : Kp [63, 70] h h6 := Rep.kpF 0 [true, true, true, true, true, false, false] D D6 (by kernel_rfl)
    exact k' h6 g5 _ ps1' ps2' K6 D6.gd ⟨D6.at_ 5 (by kernel_rfl), q1.2⟩ ⟨D6.at_ 6 (by kernel_rfl), q2.2⟩ gs
theorem ends_d {E : Value → Shared → Prop} {Q : Flow → Shared → Prop} {F P fl Pi Dr rk ed p d l : Addr} {H : Nat → Int} {K : Nat → Tok} {half ld en nP nf ne nl kk f n : Nat} {u1 u2 uk t1 t2 : Tok} {v1 v2 va vb vc : Value} {pz : List (Str × Value)} {ps qs rs : List Addr} {cs : List (Str × Str)} {vs zs : List Value} {fs : List Nat} {s : Int} {ps1 ps2 : Array Value}
    (hA : A.handled = none) (hd : A.depth + 100 < recursionLimit) (hu : A.units + 400 < cLine) (G : Gd w h) (hpz : Pzg pz) (aF : At w h F (frL H K (run9 half ld u1 u2 Pi Dr fl v1 v2 va vb vc (.int (kk : Nat) uk) rk ed pz) en)) (aC : At w h (F + 2) (cellO (.ref P))) (aP : At w h P (lstO (ps.map .ref) nP)) (af : At w h fl (lstX vs.toArray nf)) (hf : NatsAre vs fs) (hvs : vs.length ≤ 100)
    (hPf : P ≠ fl) (ap : At w h (p + 182) (accO d qs n)) (ad : At w h d (dctO s t1 (f : Nat) t2)) (rq : Row w h qs cs) (hsh : Short cs) (hfk : fs[kk]? = some f) (hf3 : f = 0 ∨ f = 1 ∨ f = 2) (hPk : ps[kk]? = some (p + 182)) (hps : ps.length ≤ 100) (ht1 : TbA w h 63 ps1) (ht2 : TbA w h 70 ps2) (hcs : cs = [])
    (k' : ∀ h' g' tk' ps1' ps2', Kp [63, 70] h h' → Gd w h' → TbA w h' 63 ps1' → TbA w h' 70 ps2' → (AllBare g → AllBare g') → wpAny (model pw w) A (execs ((B8 w).drop 4) (E176 w F)) Q E ⟨h', g', dr, tk', os⟩) :
    wpAny (model pw w) A (execs ((B8 w).drop 3) (E176 w F)) Q E ⟨h, g, dr, tk, os⟩ := by
  obtain ⟨tf, hv⟩ := hf.get hfk
  have nd := nd4f (ne_of_cls aF.1 aC.1 (by kernel_rfl)) (ne_of_cls aF.1 aP.1 (by kernel_rfl)) (ne_of_cls aF.1 af.1 (by kernel_rfl)) (ne_of_cls aC.1 aP.1 (by kernel_rfl)) (ne_of_cls aC.1 af.1 (by kernel_rfl)) hPf
  rcases hpz with rfl | ⟨vg, rfl⟩
  · skip
    obtain ⟨Z, D⟩ : ∃ Z, Rep (KTw w) h [F, F + 2, P, fl, 63, 70] h [(F, frL H K (run9 half ld u1 u2 Pi Dr fl v1 v2 va vb vc (.int (kk : Nat) uk) rk ed []) en), (F + 2, cellO (.ref P)), (P, lstO (ps.map .ref) nP), (fl, lstX vs.toArray nf), (63, tableObj ps1), (70, tableObj ps2)] Z := Rep.initB [(F, frL H K (run9 half ld u1 u2 Pi Dr fl v1 v2 va vb vc (.int (kk : Nat) uk) rk ed []) en), (F + 2, cellO (.ref P)), (P, lstO (ps.map .ref) nP), (fl, lstX vs.toArray nf)] G (oc aF (oc aC (oc aP (oc af on)))) nd rfl ht1 ht2 rfl
    refine atCut 1 ?_
    refine top_execs (R := fun _ _ => True) ?_
    intro θ
    refine eng 11 3640999898806201155059712 (by exact hA) D (by kernel_rfl) ?_
    intro χ1 h1 D1
    refine hook2 (fun u v => .call (.builtin "list.__getitem__") ⟨[.ref P, .int (kk : Nat) v], []⟩) (by kernel_rfl) ?_
    intro y1 y2
    refine getitem_spec (v := .ref (p + 182)) (vs := ps.map Value.ref) (n := nP) (D1.at_ (a := P) (o := lstO (ps.map .ref) nP) 2 (by kernel_rfl)).1 (get_map hPk) (by simp; omega) ?_
    refine eng 8 289360674121842944 (by exact hA) D1 (by kernel_rfl) ?_
    intro χ2 h2 D2
    refine hook2 (fun u v => .call (.builtin "list.__getitem__") ⟨[.ref fl, .int (kk : Nat) v], []⟩) (by kernel_rfl) ?_
    intro y3 y4
    refine getitem_spec (v := .int (f : Nat) tf) (vs := vs) (n := nf) (D2.at_ (a := fl) (o := lstX vs.toArray nf) 3 (by kernel_rfl)).1 hv (by omega) ?_
    refine eng 4 0 (by exact hA) D2 (by kernel_rfl) ?_
    intro χ3 h3 D3
    refine hook (c' := .call (.ref 166) ⟨[.ref (p + 182), .int (f : Nat) tf, .ref (adrAt χ3.T 0)], []⟩) (by kernel_rfl) ?_
    have K3 : Kp [] h h3 := Rep.kpF 1 [true, true, true, true, true, true] D D3 (by kernel_rfl)
    have hqn : qs = [] := by
      have := rq.length
      rw [hcs] at this
      exact List.eq_nil_of_length_eq_zero this
    refine shows_spec (d := d) (n := n) (nr := 0) (hs := s) (tk1 := t1) (tk2 := t2) (qs := qs) (rs := []) (cs := cs) (ac_handled hA) (depL (b := A.depth) 0 (by kernel_rfl) hd rfl) (depL (b := A.units) 0 (by kernel_rfl) hu rfl) D3.gd (ap.kp K3 (nin0 _)) (ad.kp K3 (nin0 _)) (rq.kp0 K3) hsh (by omega) (D3.at_ (a := adrAt χ3.T 0) (o := lstX #[] 0) 0 (by kernel_rfl)) (by rw [hcs]; exact .nil) (ht1.kp K3 (nin0 _)) (ht2.kp K3 (nin0 _)) ?_
    intro h5 g5 tk5 ps1' ps2' K5 q1 q2 gs
    refine Exists.elim (D3.turnM [(5, 63, tableObj ps1'), (6, 70, tableObj ps2')] K5 (by kernel_rfl) (by kernel_rfl) rfl (all2m q1.1.1 q2.1.1)) ?_
    intro Z5 D5
    refine eng 2 0 (by exact hA) D5 (by kernel_rfl) ?_
    intro χ6 h6 D6
    refine finQ (f := .done .next) (by kernel_rfl) ?_
    have K6 : Kp [63, 70] h h6 := Rep.kpF 1 [true, true, true, true, false, false] D D6 (by kernel_rfl)
    exact k' h6 g5 _ ps1' ps2' K6 D6.gd ⟨D6.at_ 5 (by kernel_rfl), q1.2⟩ ⟨D6.at_ 6 (by kernel_rfl), q2.2⟩ gs
  · skip
    obtain ⟨Z, D⟩ : ∃ Z, Rep (KTw w) h [F, F + 2, P, fl, 63, 70] h [(F, frL H K (run9 half ld u1 u2 Pi Dr fl v1 v2 va vb vc (.int (kk : Nat) uk) rk ed ([("gone", vg)] : List (Str × Value))) en), (F + 2, cellO (.ref P)), (P, lstO (ps.map .ref) nP), (fl, lstX vs.toArray nf), (63, tableObj ps1), (70, tableObj ps2)] Z := Rep.initB [(F, frL H K (run9 half ld u1 u2 Pi Dr fl v1 v2 va vb vc (.int (kk : Nat) uk) rk ed ([("gone", vg)] : List (Str × Value))) en), (F + 2, cellO (.ref P)), (P, lstO (ps.map .ref) nP), (fl, lstX vs.toArray nf)] G (oc aF (oc aC (oc aP (oc af on)))) nd rfl ht1 ht2 rfl
    refine atCut 1 ?_
    refine top_execs (R := fun _ _ => True) ?_
    intro θ
    refine eng 11 3640999898806201155059712 (by exact hA) D (by kernel_rfl) ?_
    intro χ1 h1 D1
    refine hook2 (fun u v => .call (.builtin "list.__getitem__") ⟨[.ref P, .int (kk : Nat) v], []⟩) (by kernel_rfl) ?_
    intro y1 y2
    refine getitem_spec (v := .ref (p + 182)) (vs := ps.map Value.ref) (n := nP) (D1.at_ (a := P) (o := lstO (ps.map .ref) nP) 2 (by kernel_rfl)).1 (get_map hPk) (by simp; omega) ?_
    refine eng 8 289360674121842944 (by exact hA) D1 (by kernel_rfl) ?_
    intro χ2 h2 D2
    refine hook2 (fun u v => .call (.builtin "list.__getitem__") ⟨[.ref fl, .int (kk : Nat) v], []⟩) (by kernel_rfl) ?_
    intro y3 y4
    refine getitem_spec (v := .int (f : Nat) tf) (vs := vs) (n := nf) (D2.at_ (a := fl) (o := lstX vs.toArray nf) 3 (by kernel_rfl)).1 hv (by omega) ?_
    refine eng 4 0 (by exact hA) D2 (by kernel_rfl) ?_
    intro χ3 h3 D3
    refine hook (c' := .call (.ref 166) ⟨[.ref (p + 182), .int (f : Nat) tf, .ref (adrAt χ3.T 0)], []⟩) (by kernel_rfl) ?_
    have K3 : Kp [] h h3 := Rep.kpF 1 [true, true, true, true, true, true] D D3 (by kernel_rfl)
    have hqn : qs = [] := by
      have := rq.length
      rw [hcs] at this
      exact List.eq_nil_of_length_eq_zero this
    refine shows_spec (d := d) (n := n) (nr := 0) (hs := s) (tk1 := t1) (tk2 := t2) (qs := qs) (rs := []) (cs := cs) (ac_handled hA) (depL (b := A.depth) 0 (by kernel_rfl) hd rfl) (depL (b := A.units) 0 (by kernel_rfl) hu rfl) D3.gd (ap.kp K3 (nin0 _)) (ad.kp K3 (nin0 _)) (rq.kp0 K3) hsh (by omega) (D3.at_ (a := adrAt χ3.T 0) (o := lstX #[] 0) 0 (by kernel_rfl)) (by rw [hcs]; exact .nil) (ht1.kp K3 (nin0 _)) (ht2.kp K3 (nin0 _)) ?_
    intro h5 g5 tk5 ps1' ps2' K5 q1 q2 gs
    refine Exists.elim (D3.turnM [(5, 63, tableObj ps1'), (6, 70, tableObj ps2')] K5 (by kernel_rfl) (by kernel_rfl) rfl (all2m q1.1.1 q2.1.1)) ?_
    intro Z5 D5
    refine eng 2 0 (by exact hA) D5 (by kernel_rfl) ?_
    intro χ6 h6 D6
    refine finQ (f := .done .next) (by kernel_rfl) ?_
    have K6 : Kp [63, 70] h h6 := Rep.kpF 1 [true, true, true, true, false, false] D D6 (by kernel_rfl)
    exact k' h6 g5 _ ps1' ps2' K6 D6.gd ⟨D6.at_ 5 (by kernel_rfl), q1.2⟩ ⟨D6.at_ 6 (by kernel_rfl), q2.2⟩ gs
theorem popfrom0 {p d : Addr} {n : Nat} {hs f : Int} {tk1 tk2 : Tok} {qs : List Addr}
    (hA : A.handled = none) (hd : A.depth + 1 < recursionLimit) (G : Gd w h) (hp : At w h p (accO d qs n)) (hdd : At w h d (dctO hs tk1 f tk2)) (hm : qs.length ≤ 100)
    (k : ∀ h' tk' l n', Kp [p] h h' → At w h' l (lstO (qs.map .ref) 0) → h.get? l = none → At w h' p (accO d [] n') → R (.ok (.ret (.ref l))) ⟨h', g, dr, tk', os⟩) :
    codeAny (model pw w) A (.call (.ref 53) ⟨[.ref p], []⟩) R ⟨h, g, dr, tk, os⟩ := by
  obtain ⟨Z, D⟩ : ∃ Z, Rep (KTw w) h [p, d] h [(p, accO d qs n), (d, dctO hs tk1 f tk2)] Z := Rep.initC (T := [(p, accO d qs n), (d, dctO hs tk1 f tk2)]) G (oc hp (oc hdd on)) (by kernel_rfl)
  refine Mine.start (Q := fun _ _ => True) (E := fun _ _ => True) ?_
  refine eng 12 310693935713298766914125824 (by exact hA) D (by kernel_rfl) ?_
  intro χ1 h1 D1
  refine enterD 0 53 0 D1 (by kernel_rfl) (by omega) ?_
  refine eng 18 15577128260092081018837590276571136 (by exact hA) D1 (by kernel_rfl) ?_
  intro χ2 h2 D2
  refine hook (c' := .call (.builtin "list.__getitem__") ⟨[.ref p, .ref (adrAt χ2.T 0)], []⟩) (by kernel_rfl) ?_
  refine getslice_acc (d := d) (n := n) (xs := (qs.map Value.ref).toArray) (vl := .int 0 (fdT (objAt χ2.T 0) 0)) (vu := .none) (vs := .none) (ac_handled hA) (D2.two 2 0 (by kernel_rfl) (by kernel_rfl) rfl) (.int 0 _) .none .none (by simp) (by simp; omega) ?_
  intro h3 tk3 l K3 al hl
  rw [show (0 : Int) = ((0 : Nat) : Int) from rfl, slicePick_from'] at al
  refine Exists.elim ((D2.plus (o := lstO (qs.map .ref) 0) K3 (by simpa using al) hl).ex) ?_
  intro Z3 D3
  refine eng 23 34254467298679397211225532377757218552116412416 (by exact hA) D3 (by kernel_rfl) ?_
  intro χ4 h4 D4
  refine hook (c' := .call (.builtin "list.__setitem__") ⟨[.ref p, .ref (adrAt χ4.T 0), .ref (adrAt χ4.T 1)], []⟩) (by kernel_rfl) ?_
  refine setslice (d := d) (n := n) (xs := (qs.map Value.ref).toArray) (i := 0) (it := fdT (objAt χ4.T 0) 0) (ac_handled hA) (D4.three 5 0 1 (by kernel_rfl) (by kernel_rfl) (by kernel_rfl) rfl rfl rfl) (by omega) (by simp) (by simp; omega) ?_
  intro h5 tk5 n5 K5 a5
  refine Exists.elim ((D4.turn (j := 5) (x := (p, accO d qs n)) (by kernel_rfl) K5 a5).ex) ?_
  intro Z5 D5
  refine eng 5 21474836480 (by exact hA) D5 (by kernel_rfl) ?_
  intro χ6 h6 D6
  refine fin (f := .ret (.ref l)) (by kernel_rfl) ?_
  have al := D6.at_ (a := l) (o := lstO (qs.map .ref) 0) 2 (by kernel_rfl)
  have ap := D6.at_ (a := p) (o := accX d ((qs.map Value.ref).toArray.extract 0 (0 : Int).toNat) n5) 5 (by kernel_rfl)
  have e1 : (qs.map Value.ref).toArray.extract 0 (0 : Int).toNat = #[] := by simp
  rw [e1] at ap
  exact k h6 _ l n5 (kp_two D6.keep (fun _ => D.at (j := 1) rfl) (D6.at (j := 6) (x := (d, dctO hs tk1 f tk2)) (by kernel_rfl))) al (D2.keep.fresh hl) ap
theorem nd5p {F C P p d : Addr} (h1 : F ≠ C) (h2 : F ≠ P) (h4 : C ≠ P) (hp : p ∉ [F, C, P]) (hd : d ∉ [F, C, P]) (hpd : p ≠ d) : [F, C, P, p, d].Nodup := by
  simp only [List.mem_cons, List.not_mem_nil, or_false, not_or] at hp hd
  simp only [List.nodup_cons, List.mem_cons, List.not_mem_nil, or_false, not_or, not_false_eq_true, List.nodup_nil, and_true]
  exact ⟨⟨h1, h2, Ne.symm hp.1, Ne.symm hd.1⟩, ⟨h4, Ne.symm hp.2.1, Ne.symm hd.2.1⟩, ⟨Ne.symm hp.2.2, Ne.symm hd.2.2⟩, hpd⟩
theorem ends_b {E : Value → Shared → Prop} {Q : Flow → Shared → Prop} {F P fl Pi Dr rk ed p d : Addr} {H : Nat → Int} {K : Nat → Tok} {half ld en nP kk f n : Nat} {u1 u2 uk t1 t2 : Tok} {v1 v2 va vb vc : Value} {pz : List (Str × Value)} {ps qs : List Addr} {cs gcs : List (Str × Str)} {s : Int}
    (hA : A.handled = none) (hd : A.depth + 100 < recursionLimit) (G : Gd w h) (hpz : Pzg pz) (aF : At w h F (frL H K (run9 half ld u1 u2 Pi Dr fl v1 v2 va vb vc (.int (kk : Nat) uk) rk ed pz) en)) (aC : At w h (F + 2) (cellO (.ref P))) (aP : At w h P (lstO (ps.map .ref) nP))
    (ap : At w h (p + 182) (accO d qs n)) (ad : At w h d (dctO s t1 (f : Nat) t2)) (rq : Row w h qs cs) (hql : qs.length ≤ 100) (hPk : ps[kk]? = some (p + 182)) (hps : ps.length ≤ 100)
    (hg : (kk % 2 = 1 ∧ gcs = cs) ∨ (kk % 2 ≠ 1 ∧ (∃ q, qs = [q]) ∧ gcs = cs) ∨ (kk % 2 ≠ 1 ∧ qs = [] ∧ gcs = ([("", "")] : List (Str × Str))))
    (k' : ∀ h' tk' H' K' en' gl ng gq n', Kp [F, p + 182] h h' → Gd w h' → At w h' F (frL H' K' (run9 half ld u1 u2 Pi Dr fl v1 v2 va vb vc (.int (kk : Nat) uk) rk ed ([("gone", .ref gl)] : List (Str × Value))) en') → At w h' gl (lstO (gq.map .ref) ng) → Row w h' gq gcs → h.get? gl = none → At w h' (p + 182) (accO d [] n') → wpAny (model pw w) A (execs ((B8 w).drop 2) (E176 w F)) Q E ⟨h', g, dr, tk', os⟩) :
    wpAny (model pw w) A (execs ((B8 w).drop 1) (E176 w F)) Q E ⟨h, g, dr, tk, os⟩ := by
  have nd := nd5p (ne_of_cls aF.1 aC.1 (by kernel_rfl)) (ne_of_cls aF.1 aP.1 (by kernel_rfl)) (ne_of_cls aC.1 aP.1 (by kernel_rfl)) (nin3 (ne_of_cls ap.1 aF.1 (by kernel_rfl)) (ne_of_cls ap.1 aC.1 (by kernel_rfl)) (ne_of_cls ap.1 aP.1 (by kernel_rfl))) (nin3 (ne_of_cls ad.1 aF.1 (by kernel_rfl)) (ne_of_cls ad.1 aC.1 (by kernel_rfl)) (ne_of_cls ad.1 aP.1 (by kernel_rfl))) (ne_of_cls ap.1 ad.1 (by kernel_rfl))
  have nt : ∀ a ∈ [F, p + 182], ∀ o, h.get? a = some o → o.cls ≠ .type "tuple" := kind2 aF.1 (by simp) ap.1 (by simp)
  rcases hpz with rfl | ⟨vg, rfl⟩
  · skip
    obtain ⟨Z, D⟩ : ∃ Z, Rep (KTw w) h [F, F + 2, P, p + 182, d] h [(F, frL H K (run9 half ld u1 u2 Pi Dr fl v1 v2 va vb vc (.int (kk : Nat) uk) rk ed []) en), (F + 2, cellO (.ref P)), (P, lstO (ps.map .ref) nP), (p + 182, accO d qs n), (d, dctO s t1 (f : Nat) t2)] Z := ⟨_, Rep.init (T := [(F, frL H K (run9 half ld u1 u2 Pi Dr fl v1 v2 va vb vc (.int (kk : Nat) uk) rk ed []) en), (F + 2, cellO (.ref P)), (P, lstO (ps.map .ref) nP), (p + 182, accO d qs n), (d, dctO s t1 (f : Nat) t2)]) G (oc aF (oc aC (oc aP (oc ap (oc ad on))))) nd⟩
    refine atCut 1 ?_
    refine top_execs (R := fun _ _ => True) ?_
    intro θ
    refine eng 5 65536 (by exact hA) D (by kernel_rfl) ?_
    intro χ1 h1 D1
    refine hook2 (fun u v => .call (.builtin "int.__mod__") ⟨[.int (kk : Nat) u, .int 2 v], []⟩) (by kernel_rfl) ?_
    intro x1 y1
    refine mod_spec kk 2 rfl rfl (by decide) (by decide) ?_
    intro tk2 v2'
    refine eng 2 0 (by exact hA) D1 (by kernel_rfl) ?_
    intro χ2 h2 D2
    refine eng2 "special-get-raises" 1 0 1 0 (by exact hA) D2 (by kernel_rfl) ?_
    intro χ3 h3 D3
    refine hook2 (fun u v => .call (.builtin "int.__eq__") ⟨[.int ((kk % 2 : Nat) : Int) u, .int 1 v], []⟩) (by kernel_rfl) ?_
    intro x3 y3
    rcases hg with ⟨hb, rfl⟩ | ⟨hb, ⟨q, rfl⟩, rfl⟩ | ⟨hb, rfl, rfl⟩
    · skip
      refine inteq_spec true (by rw [hb]; rfl) ?_
      refine eng 8 217020505595576832 (by exact hA) D3 (by kernel_rfl) ?_
      intro χ3 h3 D3
      refine hook2 (fun u v => .call (.builtin "list.__getitem__") ⟨[.ref P, .int (kk : Nat) v], []⟩) (by kernel_rfl) ?_
      intro x4 y4
      refine getitem_spec (v := .ref (p + 182)) (vs := ps.map Value.ref) (n := nP) (D3.at_ (a := P) (o := lstO (ps.map .ref) nP) 2 (by kernel_rfl)).1 (get_map hPk) (by simp; omega) ?_
      refine eng 19 6666909166358737564499093163345970176 (by exact hA) D3 (by kernel_rfl) ?_
      intro χ5 h5 D5
      refine hook (c' := .call (.ref 53) ⟨[.ref (p + 182)], []⟩) (by kernel_rfl) ?_
      refine popfrom0 (d := d) (n := n) (hs := s) (f := f) (tk1 := t1) (tk2 := t2) (qs := qs) (ac_handled hA) (depL (b := A.depth) 0 (by kernel_rfl) hd rfl) D5.gd (D5.at_ 3 (by kernel_rfl)) (D5.at_ 4 (by kernel_rfl)) hql ?_
      intro h6 tk6 l n6 K6 al fl6 ap6
      refine Exists.elim ((D5.turnPlus (j := 3) (x := (p + 182, accO d qs n)) (by kernel_rfl) K6 ap6.1 al fl6).ex) ?_
      intro Z6 D6
      refine eng 8 565148976676864 (by exact hA) D6 (by kernel_rfl) ?_
      intro χ7 h7 D7
      refine finQ (f := .done .next) (by kernel_rfl) ?_
      have K7 : Kp [F, p + 182] h h7 := Rep.kpF 1 [false, true, true, false, true] D D7 (by kernel_rfl)
      exact k' h7 _ (eHi (objAt χ7.T 1)) (eKi (objAt χ7.T 1)) (eNd (objAt χ7.T 1)) l 0 qs n6 K7 D7.gd (D7.at_ 1 (by kernel_rfl)) (D7.at_ 0 (by kernel_rfl)) (rq.kpc K7 nt) (D5.keep.fresh fl6) (D7.at_ 4 (by kernel_rfl))
    · skip
      refine inteq_spec false (by rw [beq_eq_false_iff_ne]; omega) ?_
      refine eng 9 55557249432467668992 (by exact hA) D3 (by kernel_rfl) ?_
      intro χ3 h3 D3
      refine hook2 (fun u v => .call (.builtin "list.__getitem__") ⟨[.ref P, .int (kk : Nat) v], []⟩) (by kernel_rfl) ?_
      intro x4 y4
      refine getitem_spec (v := .ref (p + 182)) (vs := ps.map Value.ref) (n := nP) (D3.at_ (a := P) (o := lstO (ps.map .ref) nP) 2 (by kernel_rfl)).1 (get_map hPk) (by simp; omega) ?_
      refine eng 19 6666909166358737564499093163345970176 (by exact hA) D3 (by kernel_rfl) ?_
      intro χ5 h5 D5
      refine hook (c' := .call (.ref 61) ⟨[.ref (p + 182)], []⟩) (by kernel_rfl) ?_
      refine pop_one (d := d) (n := n) (hs := s) (f := f) (tk1 := t1) (tk2 := t2) (q := q) (ac_handled hA) (depL (b := A.depth) 0 (by kernel_rfl) hd rfl) D5.gd (D5.at_ 3 (by kernel_rfl)) (D5.at_ 4 (by kernel_rfl)) ?_
      intro h6 tk6 n6 K6 ap6
      refine Exists.elim ((D5.turn (j := 3) (x := (p + 182, accO d [q] n)) (by kernel_rfl) K6 ap6.1).ex) ?_
      intro Z6 D6
      refine eng 9 144678138029277184 (by exact hA) D6 (by kernel_rfl) ?_
      intro χ7 h7 D7
      refine finQ (f := .done .next) (by kernel_rfl) ?_
      have K7 : Kp [F, p + 182] h h7 := Rep.kpF 1 [false, true, true, false, true] D D7 (by kernel_rfl)
      exact k' h7 _ (eHi (objAt χ7.T 1)) (eKi (objAt χ7.T 1)) (eNd (objAt χ7.T 1)) (adrAt χ7.T 0) 0 [q] n6 K7 D7.gd (D7.at_ 1 (by kernel_rfl)) (D7.at_ 0 (by kernel_rfl)) (rq.kpc K7 nt) (D7.fresh_n (a := adrAt χ7.T 0) (o := objAt χ7.T 0) 0 1 (by kernel_rfl) rfl (by kernel_rfl)) (D7.at_ 4 (by kernel_rfl))
    · skip
      refine inteq_spec false (by rw [beq_eq_false_iff_ne]; omega) ?_
      refine eng 9 55557249432467668992 (by exact hA) D3 (by kernel_rfl) ?_
      intro χ3 h3 D3
      refine hook2 (fun u v => .call (.builtin "list.__getitem__") ⟨[.ref P, .int (kk : Nat) v], []⟩) (by kernel_rfl) ?_
      intro x4 y4
      refine getitem_spec (v := .ref (p + 182)) (vs := ps.map Value.ref) (n := nP) (D3.at_ (a := P) (o := lstO (ps.map .ref) nP) 2 (by kernel_rfl)).1 (get_map hPk) (by simp; omega) ?_
      refine eng 19 6666909166358737564499093163345970176 (by exact hA) D3 (by kernel_rfl) ?_
      intro χ5 h5 D5
      refine hook (c' := .call (.ref 61) ⟨[.ref (p + 182)], []⟩) (by kernel_rfl) ?_
      refine pop_nil (d := d) (n := n) (hs := s) (f := f) (tk1 := t1) (tk2 := t2) (ac_handled hA) (depL (b := A.depth) 0 (by kernel_rfl) hd rfl) D5.gd (D5.at_ 3 (by kernel_rfl)) (D5.at_ 4 (by kernel_rfl)) ?_
      intro h6 tk6 q K6 tq
      refine Exists.elim ((D5.same K6).ex) ?_
      intro Z6 D6
      have K06 : Kp [] h h6 := Rep.kpF 0 [true, true, true, true, true] D D6 (by kernel_rfl)
      have D7 := D6.to _ rfl
      clear D6
      refine eng 9 144678138029277184 (by exact hA) D7 (by kernel_rfl) ?_
      intro χ8 h8 D8
      refine finQ (f := .done .next) (by kernel_rfl) ?_
      have K8 : Kp [F] h6 h8 := Rep.kpF 1 [false, true, true, true, true] D7 D8 (by kernel_rfl)
      have aF6 := aF.kp K06 (nin0 _)
      exact k' h8 _ (eHi (objAt χ8.T 1)) (eKi (objAt χ8.T 1)) (eNd (objAt χ8.T 1)) (adrAt χ8.T 0) 0 [q] n ((K06.weak (ks' := [F, p + 182]) (by simp)).trans (K8.weak (ks' := [F, p + 182]) (by simp)) fun _ _ _ q => q) D8.gd (D8.at_ 1 (by kernel_rfl)) (D8.at_ 0 (by kernel_rfl)) (.cons (tupKc tq K8 (ntup aF6.1 (by simp))) .nil) (K06.fresh (D8.fresh_n (a := adrAt χ8.T 0) (o := objAt χ8.T 0) 0 1 (by kernel_rfl) rfl (by kernel_rfl))) (D8.at_ 4 (by kernel_rfl))
  · skip
    obtain ⟨Z, D⟩ : ∃ Z, Rep (KTw w) h [F, F + 2, P, p + 182, d] h [(F, frL H K (run9 half ld u1 u2 Pi Dr fl v1 v2 va vb vc (.int (kk : Nat) uk) rk ed ([("gone", vg)] : List (Str × Value))) en), (F + 2, cellO (.ref P)), (P, lstO (ps.map .ref) nP), (p + 182, accO d qs n), (d, dctO s t1 (f : Nat) t2)] Z := ⟨_, Rep.init (T := [(F, frL H K (run9 half ld u1 u2 Pi Dr fl v1 v2 va vb vc (.int (kk : Nat) uk) rk ed ([("gone", vg)] : List (Str × Value))) en), (F + 2, cellO (.ref P)), (P, lstO (ps.map .ref) nP), (p + 182, accO d qs n), (d, dctO s t1 (f : Nat) t2)]) G (oc aF (oc aC (oc aP (oc ap (oc ad on))))) nd⟩
    refine atCut 1 ?_
    refine top_execs (R := fun _ _ => True) ?_
    intro θ
    refine eng 5 65536 (by exact hA) D (by kernel_rfl) ?_
    intro χ1 h1 D1
    refine hook2 (fun u v => .call (.builtin "int.__mod__") ⟨[.int (kk : Nat) u, .int 2 v], []⟩) (by kernel_rfl) ?_
    intro x1 y1
    refine mod_spec kk 2 rfl rfl (by decide) (by decide) ?_
    intro tk2 v2'
    refine eng 2 0 (by exact hA) D1 (by kernel_rfl) ?_
    intro χ2 h2 D2
    refine eng2 "special-get-raises" 1 0 1 0 (by exact hA) D2 (by kernel_rfl) ?_
    intro χ3 h3 D3
    refine hook2 (fun u v => .call (.builtin "int.__eq__") ⟨[.int ((kk % 2 : Nat) : Int) u, .int 1 v], []⟩) (by kernel_rfl) ?_
    intro x3 y3
    rcases hg with ⟨hb, rfl⟩ | ⟨hb, ⟨q, rfl⟩, rfl⟩ | ⟨hb, rfl, rfl⟩
    · skip
      refine inteq_spec true (by rw [hb]; rfl) ?_
      refine eng 8 217020505595576832 (by exact hA) D3 (by kernel_rfl) ?_
      intro χ3 h3 D3
      refine hook2 (fun u v => .call (.builtin "list.__getitem__") ⟨[.ref P, .int (kk : Nat) v], []⟩) (by kernel_rfl) ?_
      intro x4 y4
      refine getitem_spec (v := .ref (p + 182)) (vs := ps.map Value.ref) (n := nP) (D3.at_ (a := P) (o := lstO (ps.map .ref) nP) 2 (by kernel_rfl)).1 (get_map hPk) (by simp; omega) ?_
      refine eng 19 6666909166358737564499093163345970176 (by exact hA) D3 (by kernel_rfl) ?_
      intro χ5 h5 D5
      refine hook (c' := .call (.ref 53) ⟨[.ref (p + 182)], []⟩) (by kernel_rfl) ?_
      refine popfrom0 (d := d) (n := n) (hs := s) (f := f) (tk1 := t1) (tk2 := t2) (qs := qs) (ac_handled hA) (depL (b := A.depth) 0 (by kernel_rfl) hd rfl) D5.gd (D5.at_ 3 (by kernel_rfl)) (D5.at_ 4 (by kernel_rfl)) hql ?_
      intro h6 tk6 l n6 K6 al fl6 ap6
      refine Exists.elim ((D5.turnPlus (j := 3) (x := (p + 182, accO d qs n)) (by kernel_rfl) K6 ap6.1 al fl6).ex) ?_
      intro Z6 D6
      refine eng 8 565148976676864 (by exact hA) D6 (by kernel_rfl) ?_
      intro χ7 h7 D7
      refine finQ (f := .done .next) (by kernel_rfl) ?_
      have K7 : Kp [F, p + 182] h h7 := Rep.kpF 1 [false, true, true, false, true] D D7 (by kernel_rfl)
      exact k' h7 _ (eHi (objAt χ7.T 1)) (eKi (objAt χ7.T 1)) (eNd (objAt χ7.T 1)) l 0 qs n6 K7 D7.gd (D7.at_ 1 (by kernel_rfl)) (D7.at_ 0 (by kernel_rfl)) (rq.kpc K7 nt) (D5.keep.fresh fl6) (D7.at_ 4 (by kernel_rfl))
    · skip
      refine inteq_spec false (by rw [beq_eq_false_iff_ne]; omega) ?_
      refine eng 9 55557249432467668992 (by exact hA) D3 (by kernel_rfl) ?_
      intro χ3 h3 D3
      refine hook2 (fun u v => .call (.builtin "list.__getitem__") ⟨[.ref P, .int (kk : Nat) v], []⟩) (by kernel_rfl) ?_
      intro x4 y4
      refine getitem_spec (v := .ref (p + 182)) (vs := ps.map Value.ref) (n := nP) (D3.at_ (a := P) (o := lstO (ps.map .ref) nP) 2 (by kernel_rfl)).1 (get_map hPk) (by simp; omega) ?_
      refine eng 19 6666909166358737564499093163345970176 (by exact hA) D3 (by kernel_rfl) ?_
      intro χ5 h5 D5
      refine hook (c' := .call (.ref 61) ⟨[.ref (p + 182)], []⟩) (by kernel_rfl) ?_
      refine pop_one (d := d) (n := n) (hs := s) (f := f) (tk1 := t1) (tk2 := t2) (q := q) (ac_handled hA) (depL (b := A.depth) 0 (by kernel_rfl) hd rfl) D5.gd (D5.at_ 3 (by kernel_rfl)) (D5.at_ 4 (by kernel_rfl)) ?_
      intro h6 tk6 n6 K6 ap6
      refine Exists.elim ((D5.turn (j := 3) (x := (p + 182, accO d [q] n)) (by kernel_rfl) K6 ap6.1).ex) ?_
      intro Z6 D6
      refine eng 9 144678138029277184 (by exact hA) D6 (by kernel_rfl) ?_
      intro χ7 h7 D7
      refine finQ (f := .done .next) (by kernel_rfl) ?_
      have K7 : Kp [F, p + 182] h h7 := Rep.kpF 1 [false, true, true, false, true] D D7 (by kernel_rfl)
      exact k' h7 _ (eHi (objAt χ7.T 1)) (eKi (objAt χ7.T 1)) (eNd (objAt χ7.T 1)) (adrAt χ7.T 0) 0 [q] n6 K7 D7.gd (D7.at_ 1 (by kernel_rfl)) (D7.at_ 0 (by kernel_rfl)) (rq.kpc K7 nt) (D7.fresh_n (a := adrAt χ7.T 0) (o := objAt χ7.T 0) 0 1 (by kernel_rfl) rfl (by kernel_rfl)) (D7.at_ 4 (by kernel_rfl))
    · skip
      refine inteq_spec false (by rw [beq_eq_false_iff_ne]; omega) ?_
      refine eng 9 55557249432467668992 (by exact hA) D3 (by kernel_rfl) ?_
      intro χ3 h3 D3
      refine hook2 (fun u v => .call (.builtin "list.__getitem__") ⟨[.ref P, .int (kk : Nat) v], []⟩) (by kernel_rfl) ?_
      intro x4 y4
      refine getitem_spec (v := .ref (p + 182)) (vs := ps.map Value.ref) (n := nP) (D3.at_ (a := P) (o := lstO (ps.map .ref) nP) 2 (by kernel_rfl)).1 (get_map hPk) (by simp; omega) ?_
      refine eng 19 6666909166358737564499093163345970176 (by exact hA) D3 (by kernel_rfl) ?_
      intro χ5 h5 D5
      refine hook (c' := .call (.ref 61) ⟨[.ref (p + 182)], []⟩) (by kernel_rfl) ?_
      refine pop_nil (d := d) (n := n) (hs := s) (f := f) (tk1 := t1) (tk2 := t2) (ac_handled hA) (depL (b := A.depth) 0 (by kernel_rfl) hd rfl) D5.gd (D5.at_ 3 (by kernel_rfl)) (D5.at_ 4 (by kernel_rfl)) ?_
      intro h6 tk6 q K6 tq
      refine Exists.elim ((D5.same K6).ex) ?_
      intro Z6 D6
      have K06 : Kp [] h h6 := Rep.kpF 0 [true, true, true, true, true] D D6 (by kernel_rfl)
      have D7 := D6.to _ rfl
      clear D6
      refine eng 9 144678138029277184 (by exact hA) D7 (by kernel_rfl) ?_
      intro χ8 h8 D8
      refine finQ (f := .done .next) (by kernel_rfl) ?_
      have K8 : Kp [F] h6 h8 := Rep.kpF 1 [false, true, true, true, true] D7 D8 (by kernel_rfl)
      have aF6 := aF.kp K06 (nin0 _)
      exact k' h8 _ (eHi (objAt χ8.T 1)) (eKi (objAt χ8.T 1)) (eNd (objAt χ8.T 1)) (adrAt χ8.T 0) 0 [q] n ((K06.weak (ks' := [F, p + 182]) (by simp)).trans (K8.weak (ks' := [F, p + 182]) (by simp)) fun _ _ _ q => q) D8.gd (D8.at_ 1 (by kernel_rfl)) (D8.at_ 0 (by kernel_rfl)) (.cons (tupKc tq K8 (ntup aF6.1 (by simp))) .nil) (K06.fresh (D8.fresh_n (a := adrAt χ8.T 0) (o := objAt χ8.T 0) 0 1 (by kernel_rfl) rfl (by kernel_rfl))) (D8.at_ 4 (by kernel_rfl))
def ieT : PySem.Expr → PySem.Expr
  | .IfExp t _ _ _ => t
  | _ => noE
def ieB : PySem.Expr → PySem.Expr
  | .IfExp _ b _ _ => b
  | _ => noE
def ieO : PySem.Expr → PySem.Expr
  | .IfExp _ _ o _ => o
  | _ => noE
def ieP : PySem.Expr → Pos
  | .IfExp _ _ _ p => p
  | _ => default
theorem atIfE {prog : Program} {E : Value → Shared → Prop} {s : Shared} {env : Env} {x : PySem.Expr} {Q : Value → Shared → Prop} (e : x = .IfExp (ieT x) (ieB x) (ieO x) (ieP x))
    (h : wpAny (model prog w) A (isTrue (ieT x) env (eval (ieT x) env)) (fun b s₁ => if b then wpAny (model prog w) A (eval (ieB x) env) Q E s₁ else wpAny (model prog w) A (eval (ieO x) env) Q E s₁) E s) : wpAny (model prog w) A (eval x env) Q E s := by
  rw [e]
  exact wpAny_IfExp h
theorem ne_rows {prog : Program} {w' : World} {E : Value → Shared → Prop} {Q : Value → Shared → Prop} {s : Shared} {l b : Addr} {qs rs : List Addr} {n n' : Nat} {cs : List (Str × Str)}
    (hl : s.heap.get? l = some (lstO (qs.map .ref) n)) (hb : s.heap.get? b = some (lstO (rs.map .ref) n')) (hq : Row w s.heap qs cs) (hr : Row w s.heap rs cs) (hu : A.units + 1 < cLine) (h : Q (.bool false) s) :
    wpAny (model prog w') A (compareOp .NotEq (.ref l) (.ref b)) Q E s := by
  have h1 := hq.length
  have h2 := hr.length
  refine RcNeAt.lists (items := (qs.map Value.ref).toArray) (items2 := (rs.map Value.ref).toArray) (e := fun _ => true) ⟨_, hl, rfl, n, rfl⟩ ⟨_, hb, rfl, n', rfl⟩ (by simp; omega) (by omega) (fun j h1' h2' => ?_) prog w' E Q (by
    have : (List.range (qs.map Value.ref).toArray.size).all (fun _ => true) = true := List.all_eq_true.mpr fun _ _ => rfl
    rw [this]; exact h)
  simp only [List.size_toArray, List.length_map] at h1' h2'
  obtain ⟨c, hc, x⟩ := hq.get (i := j) (List.getElem?_eq_getElem h1')
  obtain ⟨c', hc', y⟩ := hr.get (i := j) (List.getElem?_eq_getElem h2')
  rw [hc] at hc'
  cases hc'
  simp only [List.getElem_toArray, List.getElem_map]
  exact eq_pieces x y (by show A.units + 1 < _; omega)
noncomputable abbrev cX (w : World) : PySem.Expr := cmR (ifT ((B8 w).drop 2))
theorem ends_c {E : Value → Shared → Prop} {Q : Flow → Shared → Prop} {F fl Pi Dr rk ed gl l : Addr} {H : Nat → Int} {K : Nat → Tok} {half ld en kk ne ng nl : Nat} {u1 u2 uk : Tok} {v1 v2 va vb vc : Value} {rs gq : List Addr} {cs gcs : List (Str × Str)} {zs : List Value}
    (hA : A.handled = none) (hu : A.units + 400 < cLine) (G : Gd w h) (aF : At w h F (frL H K (run9 half ld u1 u2 Pi Dr fl v1 v2 va vb vc (.int (kk : Nat) uk) rk ed ([("gone", .ref gl)] : List (Str × Value))) en))
    (ae : At w h ed (lstX zs.toArray ne)) (hzk : zs[kk]? = some (.ref l)) (hzl : zs.length ≤ 100) (al : At w h l (lstO (rs.map .ref) nl)) (rr : Row w h rs cs) (ag : At w h gl (lstO (gq.map .ref) ng)) (rg : Row w h gq gcs)
    (hg : (kk % 2 = 1 ∧ gcs = cs) ∨ (kk % 2 ≠ 1 ∧ rs ≠ [] ∧ gcs = cs) ∨ (kk % 2 ≠ 1 ∧ rs = [] ∧ gcs = ([("", "")] : List (Str × Str))))
    (k' : ∀ h' tk', Kp [] h h' → Gd w h' → wpAny (model pw w) A (execs ((B8 w).drop 3) (E176 w F)) Q E ⟨h', g, dr, tk', os⟩) :
    wpAny (model pw w) A (execs ((B8 w).drop 2) (E176 w F)) Q E ⟨h, g, dr, tk, os⟩ := by
  have frO : ∀ h1, Kp [] h h1 → Gd w h1 → ∃ Z, Rep (KTw w) h1 [F, ed] h1 [(F, frL H K (run9 half ld u1 u2 Pi Dr fl v1 v2 va vb vc (.int (kk : Nat) uk) rk ed ([("gone", .ref gl)] : List (Str × Value))) en), (ed, lstX zs.toArray ne)] Z := fun h1 K1 G1 =>
    Rep.initC (T := [(F, frL H K (run9 half ld u1 u2 Pi Dr fl v1 v2 va vb vc (.int (kk : Nat) uk) rk ed ([("gone", .ref gl)] : List (Str × Value))) en), (ed, lstX zs.toArray ne)]) G1 (by simp only [List.forall_mem_cons]; exact ⟨aF.kp K1 (nin0 _), ae.kp K1 (nin0 _), by simp⟩) (by kernel_rfl)
  refine atIf (by kernel_rfl) ?_
  refine atCmpT (by kernel_rfl) (by kernel_rfl) ?_
  refine wpAny_mono (Q := fun v s' => ∃ h' tk', v = .ref gl ∧ s' = (⟨h', g, dr, tk', os⟩ : Shared) ∧ Kp [] h h' ∧ Gd w h') ?_ ?_ (fun _ _ x => x)
  · obtain ⟨Z, D⟩ := frO h (Kp.refl _ _) G
    refine top_eval (R := fun _ _ => True) ?_
    intro θ
    refine eng 2 256 (by exact hA) D (by kernel_rfl) ?_
    intro χ1 h1 D1
    refine finQ (f := .done (.ret (.ref gl))) (by kernel_rfl) ?_
    exact ⟨h1, _, rfl, rfl, Rep.kpF 0 [true, true] D D1 (by kernel_rfl), D1.gd⟩
  rintro v s' ⟨h1, tk1, rfl, rfl, K1, G1⟩
  have fin : ∀ h2 tk2 b bs nb, Kp [] h h2 → Gd w h2 → At w h2 b (lstO (bs.map .ref) nb) → Row w h2 bs gcs → wpAny (model pw w) A (compareOp .NotEq (.ref gl) (.ref b)) (fun c s₃ => wpAny (model pw w) A (truthy c) (fun v s' => wpAny (model pw w) A (execs (if v then ifB ((B8 w).drop 2) else ifO ((B8 w).drop 2)) (E176 w F)) (fun f s'' => match f with | .next => wpAny (model pw w) A (execs ((B8 w).drop 2).tail (E176 w F)) Q E s'' | f => Q f s'') E s') E s₃) E ⟨h2, g, dr, tk2, os⟩ := by
    intro h2 tk2 b bs nb K2 G2 ab rb
    refine ne_rows (ag.kp K2 (nin0 _)).1 ab.1 (rg.kp0 K2) rb (by omega) ?_
    refine wpAny_truthy_bool ?_
    exact wpAny_pure (k' h2 tk2 K2 G2)
  have body : ∀ h2 tk2, Kp [] h h2 → Gd w h2 → gcs = cs → wpAny (model pw w) A (eval (ieB (cX w)) (E176 w F)) (fun b s₂ => wpAny (model pw w) A (compareOp .NotEq (.ref gl) b) (fun c s₃ => wpAny (model pw w) A (truthy c) (fun v s' => wpAny (model pw w) A (execs (if v then ifB ((B8 w).drop 2) else ifO ((B8 w).drop 2)) (E176 w F)) (fun f s'' => match f with | .next => wpAny (model pw w) A (execs ((B8 w).drop 2).tail (E176 w F)) Q E s'' | f => Q f s'') E s') E s₃) E s₂) E ⟨h2, g, dr, tk2, os⟩ := by
    intro h2 tk2 K2 G2 hgc
    refine Exists.elim (frO h2 K2 G2) ?_
    intro Z D
    refine top_eval (R := fun _ _ => True) ?_
    intro θ
    refine eng 8 144680337069310208 (by exact hA) D (by kernel_rfl) ?_
    intro χ3 h3 D3
    refine hook2 (fun u v => .call (.builtin "list.__getitem__") ⟨[.ref ed, .int (kk : Nat) v], []⟩) (by kernel_rfl) ?_
    intro y1 y2
    refine getitem_spec (v := .ref l) (vs := zs) (n := ne) (D3.at_ (a := ed) (o := lstX zs.toArray ne) 1 (by kernel_rfl)).1 hzk (by omega) ?_
    refine finQ (f := .done (.ret (.ref l))) (by kernel_rfl) ?_
    have K4 : Kp [] h2 h3 := Rep.kpF 0 [true, true] D D3 (by kernel_rfl)
    have K24 := K2.trans K4 fun _ _ _ q => q
    exact fin h3 _ l rs nl K24 D3.gd (al.kp K24 (nin0 _)) (by rw [hgc]; exact rr.kp0 K24)
  refine atIfE (x := cX w) (by kernel_rfl) ?_
  refine atOr2 (x := ieT (cX w)) (by kernel_rfl) ?_
  refine atCmpT (by kernel_rfl) (by kernel_rfl) ?_
  refine wpAny_mono (Q := fun v s' => ∃ h' tk' t, v = .int ((kk % 2 : Nat) : Int) t ∧ s' = (⟨h', g, dr, tk', os⟩ : Shared) ∧ Kp [] h h' ∧ Gd w h') ?_ ?_ (fun _ _ x => x)
  · obtain ⟨Z, D⟩ := frO h1 K1 G1
    refine top_eval (R := fun _ _ => True) ?_
    intro θ
    refine eng 4 256 (by exact hA) D (by kernel_rfl) ?_
    intro χ2 h2 D2
    refine hook2 (fun u v => .call (.builtin "int.__mod__") ⟨[.int (kk : Nat) u, .int 2 v], []⟩) (by kernel_rfl) ?_
    intro x1 y1
    refine mod_spec kk 2 rfl rfl (by decide) (by decide) ?_
    intro tk3 v3
    refine finQ (f := .done (.ret (.int ((kk % 2 : Nat) : Int) v3))) (by kernel_rfl) ?_
    exact ⟨_, _, v3, rfl, rfl, K1.trans (Rep.kpF 0 [true, true] D D2 (by kernel_rfl)) fun _ _ _ q => q, D2.gd⟩
  rintro v s' ⟨h2, tk2, t2, rfl, rfl, K2, G2⟩
  refine wpAny_mono (Q := fun v s' => ∃ h' tk' t, v = .int 1 t ∧ s' = (⟨h', g, dr, tk', os⟩ : Shared) ∧ Kp [] h h' ∧ Gd w h') ?_ ?_ (fun _ _ x => x)
  · obtain ⟨Z, D⟩ := frO h2 K2 G2
    refine top_eval (R := fun _ _ => True) ?_
    intro θ
    refine eng 1 0 (by exact hA) D (by kernel_rfl) ?_
    intro χ3 h3 D3
    refine finInt 1 (by kernel_rfl) (by kernel_rfl) ?_
    intro u
    exact ⟨_, _, u, rfl, rfl, K2.trans (Rep.kpF 0 [true, true] D D3 (by kernel_rfl)) fun _ _ _ q => q, D3.gd⟩
  rintro v s' ⟨h3, tk3, t3, rfl, rfl, K3, G3⟩
  refine PyProof.Rows.eq_int ?_
  refine wpAny_truthy_bool ?_
  rcases hg with ⟨hb, hgc⟩ | ⟨hb, hne, hgc⟩ | ⟨hb, hnil, hgc⟩
  · rw [show (((kk % 2 : Nat) : Int) == 1) = true from by rw [hb]; rfl]
    exact body h3 tk3 K3 G3 hgc
  · rw [show (((kk % 2 : Nat) : Int) == 1) = false from by rw [beq_eq_false_iff_ne]; omega]
    show wpAny _ _ (isTrue _ _ _) _ _ _
    refine atCmpT (by kernel_rfl) (by kernel_rfl) ?_
    refine Exists.elim (frO h3 K3 G3) ?_
    intro Z D
    refine top_eval (R := fun _ _ => True) ?_
    intro θ
    refine eng 8 144680337069310208 (by exact hA) D (by kernel_rfl) ?_
    intro χ4 h4 D4
    refine hook2 (fun u v => .call (.builtin "list.__getitem__") ⟨[.ref ed, .int (kk : Nat) v], []⟩) (by kernel_rfl) ?_
    intro y1 y2
    refine getitem_spec (v := .ref l) (vs := zs) (n := ne) (D4.at_ (a := ed) (o := lstX zs.toArray ne) 1 (by kernel_rfl)).1 hzk (by omega) ?_
    refine finQ (f := .done (.ret (.ref l))) (by kernel_rfl) ?_
    refine top_eval (R := fun _ _ => True) ?_
    intro θ
    refine eng 2 0 (by exact hA) D4 (by kernel_rfl) ?_
    intro χ6 h6 D6
    refine finQ (f := .done (.ret (.ref (adrAt χ6.T 0)))) (by kernel_rfl) ?_
    have K6 : Kp [] h3 h6 := Rep.kpF 1 [true, true] D D6 (by kernel_rfl)
    have K36 := K3.trans K6 fun _ _ _ q => q
    have be := D6.at_ (a := adrAt χ6.T 0) (o := lstX #[] 0) 0 (by kernel_rfl)
    have bl := al.kp K36 (nin0 _)
    refine RcNeAt.lists_lengths (items := (rs.map Value.ref).toArray) (items2 := #[]) ⟨_, bl.1, rfl, nl, rfl⟩ ⟨_, be.1, rfl, 0, rfl⟩ ?_ (by omega) pw w _ _ ?_
    · rw [bne_iff_ne]
      intro z
      exact hne (List.eq_nil_of_length_eq_zero (by simpa using z))
    · refine wpAny_truthy_bool ?_
      exact body h6 _ K36 D6.gd hgc
  · rw [show (((kk % 2 : Nat) : Int) == 1) = false from by rw [beq_eq_false_iff_ne]; omega]
    show wpAny _ _ (isTrue _ _ _) _ _ _
    refine atCmpT (by kernel_rfl) (by kernel_rfl) ?_
    refine Exists.elim (frO h3 K3 G3) ?_
    intro Z D
    refine top_eval (R := fun _ _ => True) ?_
    intro θ
    refine eng 8 144680337069310208 (by exact hA) D (by kernel_rfl) ?_
    intro χ4 h4 D4
    refine hook2 (fun u v => .call (.builtin "list.__getitem__") ⟨[.ref ed, .int (kk : Nat) v], []⟩) (by kernel_rfl) ?_
    intro y1 y2
    refine getitem_spec (v := .ref l) (vs := zs) (n := ne) (D4.at_ (a := ed) (o := lstX zs.toArray ne) 1 (by kernel_rfl)).1 hzk (by omega) ?_
    refine finQ (f := .done (.ret (.ref l))) (by kernel_rfl) ?_
    refine top_eval (R := fun _ _ => True) ?_
    intro θ
    refine eng 2 0 (by exact hA) D4 (by kernel_rfl) ?_
    intro χ6 h6 D6
    refine finQ (f := .done (.ret (.ref (adrAt χ6.T 0)))) (by kernel_rfl) ?_
    have K6 : Kp [] h3 h6 := Rep.kpF 1 [true, true] D D6 (by kernel_rfl)
    have K36 := K3.trans K6 fun _ _ _ q => q
    have be := D6.at_ (a := adrAt χ6.T 0) (o := lstX #[] 0) 0 (by kernel_rfl)
    have bl := al.kp K36 (nin0 _)
    subst hnil
    refine RcNeAt.lists (items := #[]) (items2 := #[]) (e := fun _ => true) ⟨_, bl.1, rfl, nl, rfl⟩ ⟨_, be.1, rfl, 0, rfl⟩ rfl (by omega) (fun j h1 h2 => absurd h1 (by simp)) pw w _ _ ?_
    refine wpAny_truthy_bool ?_
    show wpAny _ _ (eval (ieO (cX w)) _) _ _ _
    refine Exists.elim (frO h6 K36 D6.gd) ?_
    intro Z7 D7
    refine top_eval (R := fun _ _ => True) ?_
    intro θ
    refine eng 6 0 (by exact hA) D7 (by kernel_rfl) ?_
    intro χ8 h8 D8
    refine finQ (f := .done (.ret (.ref (adrAt χ8.T 0)))) (by kernel_rfl) ?_
    have K8 : Kp [] h6 h8 := Rep.kpF 2 [true, true] D7 D8 (by kernel_rfl)
    have bt := D8.at_ (a := adrAt χ8.T 1) (o := tupO "" (sqT (objAt χ8.T 1) 0) "" (sqT (objAt χ8.T 1) 1)) 1 (by kernel_rfl)
    have bL := D8.at_ (a := adrAt χ8.T 0) (o := lstO [.ref (adrAt χ8.T 1)] 0) 0 (by kernel_rfl)
    exact fin h8 _ _ [adrAt χ8.T 1] 0 (K36.trans K8 fun _ _ _ q => q) D8.gd bL (by rw [hgc]; exact .cons ⟨_, _, bt⟩ .nil)
theorem asg_k {E : Value → Shared → Prop} {Q : Shared → Prop} {F fl Pi Dr rk ed : Addr} {H : Nat → Int} {K : Nat → Tok} {half ld en t : Nat} {u1 u2 ut : Tok} {v1 v2 va vb vc vd : Value} {pz : List (Str × Value)}
    (hA : A.handled = none) (G : Gd w h) (hpz : Pzg pz) (aF : At w h F (frL H K (run9 half ld u1 u2 Pi Dr fl v1 v2 va vb vc vd rk ed pz) en))
    (k' : ∀ h' tk' H' K' en', Kp [F] h h' → Gd w h' → At w h' F (frL H' K' (run9 half ld u1 u2 Pi Dr fl v1 v2 va vb vc (.int (t : Nat) ut) rk ed pz) en') → Q ⟨h', g, dr, tk', os⟩) :
    wpAny (model pw w) A (assign (foT ((B176 w).drop 8)) (E176 w F) (.int (t : Nat) ut)) (fun _ s => Q s) E ⟨h, g, dr, tk, os⟩ := by
  rcases hpz with rfl | ⟨vg, rfl⟩
  · skip
    obtain ⟨Z, D⟩ : ∃ Z, Rep (KTw w) h [F] h [(F, frL H K (run9 half ld u1 u2 Pi Dr fl v1 v2 va vb vc vd rk ed []) en)] Z := Rep.initC (T := [(F, frL H K (run9 half ld u1 u2 Pi Dr fl v1 v2 va vb vc vd rk ed []) en)]) G (oc aF on) (by kernel_rfl)
    refine top_assign (R := fun _ _ => True) ?_
    refine eng 7 1103806595072 (by exact hA) D (by kernel_rfl) ?_
    intro χ1 h1 D1
    refine finQ (f := .done .next) (by kernel_rfl) ?_
    exact k' h1 _ (eHi (objAt χ1.T 0)) (eKi (objAt χ1.T 0)) (eNd (objAt χ1.T 0)) (Rep.kpF 0 [false] D D1 (by kernel_rfl)) D1.gd (D1.at_ 0 (by kernel_rfl))
  · skip
    obtain ⟨Z, D⟩ : ∃ Z, Rep (KTw w) h [F] h [(F, frL H K (run9 half ld u1 u2 Pi Dr fl v1 v2 va vb vc vd rk ed ([("gone", vg)] : List (Str × Value))) en)] Z := Rep.initC (T := [(F, frL H K (run9 half ld u1 u2 Pi Dr fl v1 v2 va vb vc vd rk ed ([("gone", vg)] : List (Str × Value))) en)]) G (oc aF on) (by kernel_rfl)
    refine top_assign (R := fun _ _ => True) ?_
    refine eng 7 1103806595072 (by exact hA) D (by kernel_rfl) ?_
    intro χ1 h1 D1
    refine finQ (f := .done .next) (by kernel_rfl) ?_
    exact k' h1 _ (eHi (objAt χ1.T 0)) (eKi (objAt χ1.T 0)) (eNd (objAt χ1.T 0)) (Rep.kpF 0 [false] D D1 (by kernel_rfl)) D1.gd (D1.at_ 0 (by kernel_rfl))
theorem LsAre.get {zs : List Value} {r : List (List Nat)} (x : LsAre w h zs r) {i : Nat} {c : List Nat} (e : r[i]? = some c) : ∃ l, zs[i]? = some (.ref l) ∧ LsR w h l (c.map pc) := by
  induction x generalizing i with
  | nil => simp at e
  | cons a _ ih =>
    cases i with
    | zero =>
      simp only [List.getElem?_cons_zero, Option.some.injEq] at e
      subst e
      exact ⟨_, rfl, a⟩
    | succ i => exact ih (by simpa using e)
def PlF (w : World) (h : Heap) (t : Nat) (ps : List Addr) (fs : List Nat) (rows : List (List Nat)) : Prop := ∀ (j : Nat) (p : Addr) (f : Nat) (r : List Nat), t ≤ j → ps[j]? = some p → fs[j]? = some f → rows[j]? = some r → Acc w h p (f : Nat) (r.map pc)
theorem PlF.kp {h h' : Heap} {ks : List Addr} {t : Nat} {ps : List Addr} {fs : List Nat} {rows : List (List Nat)} (x : PlF w h t ps fs rows) (K : Kp ks h h') (a : Aside h ks) : PlF w h' t ps fs rows :=
  fun j p f r e0 e1 e2 e3 => (x j p f r e0 e1 e2 e3).kpc K a
theorem Turns.nols {ks : List Addr} (t : Turns h ks) : NoLs h ks := by
  intro a ha o e
  rcases t a ha o e with c | c | c | c <;> rw [c] <;> exact ⟨by simp, by simp⟩
structure Es (w : World) (h : Heap) (F P fl Pi Dr Tb it ed : Addr) (ps hs tqs : List Addr) (vs dvs zs : List Value) (nP nf kh nD nT ne : Nat) (hcs : List (Str × Str)) (t m : Nat) (rows : List (List Nat)) (ps1 ps2 : Array Value) : Prop where
  sta : Sta w h F P fl Pi Dr Tb ps hs tqs vs dvs nP nf kh nD nT hcs
  ae : At w h ed (lstX zs.toArray ne)
  lz : LsAre w h zs rows
  aI : At w h it (riO (t : Nat) (m : Nat))
  t1 : TbA w h 63 ps1
  t2 : TbA w h 70 ps2
theorem Es.kp {h h' : Heap} {ks : List Addr} {F P fl Pi Dr Tb it ed : Addr} {ps hs tqs : List Addr} {vs dvs zs : List Value} {nP nf kh nD nT ne : Nat} {hcs : List (Str × Str)} {t m : Nat} {rows : List (List Nat)} {ps1 ps2 : Array Value}
    (x : Es w h F P fl Pi Dr Tb it ed ps hs tqs vs dvs zs nP nf kh nD nT ne hcs t m rows ps1 ps2) (G' : Gd w h') (K : Kp ks h h') (c : ∀ a ∈ ks, ∀ o, h.get? a = some o → o.cls = .type "frame" ∨ o.cls = .ref 101) : Es w h' F P fl Pi Dr Tb it ed ps hs tqs vs dvs zs nP nf kh nD nT ne hcs t m rows ps1 ps2 := by
  have tn : Turns h ks := fun a ha o e => by
    rcases c a ha o e with c | c
    · exact .inl c
    · exact .inr (.inl c)
  refine ⟨x.sta.kp G' K tn, tn.off x.ae K (by simp) (by simp) (by simp) (by simp), x.lz.kp K tn.nols, x.aI.kp K (fun q => ?_), x.t1.kpc K (fun a ha o e => ?_), x.t2.kpc K fun a ha o e => ?_⟩
  · rcases c _ q _ x.aI.1 with c | c <;> simp at c
  · rcases c a ha o e with c | c <;> rw [c] <;> simp
  · rcases c a ha o e with c | c <;> rw [c] <;> simp
theorem ends_loop {h₀ h : Heap} {F P fl Pi Dr Tb it rk ed : Addr} {ps hs tqs : List Addr} {vs dvs zs : List Value} {nP nf kh nD nT ne half ld en : Nat} {H : Nat → Int} {K : Nat → Tok} {hcs : List (Str × Str)} {u1 u2 : Tok} {v1 v2 va vb vc vd : Value} {fs : List Nat} {rows : List (List Nat)} {ps1 ps2 : Array Value}
    (hA : A.handled = none) (hd : A.depth + 300 < recursionLimit) (hu : A.units + 500 < cLine) (hrl : rows.length ≤ 100) (hr1 : ∀ r ∈ rows, r.length ≤ 1) (hps : ps.length = rows.length) (nd : ps.Nodup) (hf : NatsAre vs fs) (hfl : fs.length = rows.length) (hf3 : ∀ f ∈ fs, f < 3)
    (hPf : P ≠ fl) (hPe : P ≠ ed) (hfe : fl ≠ ed) (fF : h₀.get? F = none) (fI : h₀.get? it = none) (fps : ∀ p ∈ ps, h₀.get? p = none)
    (K0 : Kp [63, 70] h₀ h) (L0 : Es w h F P fl Pi Dr Tb it ed ps hs tqs vs dvs zs nP nf kh nD nT ne hcs 0 rows.length rows ps1 ps2) (pl : PlF w h 0 ps fs rows) (aF : At w h F (frL H K (run9 half ld u1 u2 Pi Dr fl v1 v2 va vb vc vd rk ed []) en))
    (k : ∀ h' g' tk', (AllBare g → AllBare g') → Kp [63, 70] h₀ h' → Gd w h' → (∃ ps1', TbA w h' 63 ps1') → (∃ ps2', TbA w h' 70 ps2') → (∃ fo, At w h' F fo) → R (.ok .next) ⟨h', g', dr, tk', os⟩) :
    codeAny (model pw w) A (.forLoop (foT ((B176 w).drop 8)) (.ref it) (B8 w) (foO ((B176 w).drop 8)) (E176 w F)) R ⟨h, g, dr, tk, os⟩ := by
  refine codeAny_forLoop (I := fun n s => ∃ t h' g' tk' vd pz H K en ps1 ps2, s = ⟨h', g', dr, tk', os⟩ ∧ t + n = rows.length ∧ (AllBare g → AllBare g') ∧ Kp [63, 70] h₀ h' ∧ Es w h' F P fl Pi Dr Tb it ed ps hs tqs vs dvs zs nP nf kh nD nT ne hcs t n rows ps1 ps2 ∧ PlF w h' t ps fs rows ∧ Pzg pz ∧ At w h' F (frL H K (run9 half ld u1 u2 Pi Dr fl v1 v2 va vb vc vd rk ed pz) en)) (fun n s hI => ?_) rows.length ⟨0, h, g, tk, vd, [], H, K, en, ps1, ps2, rfl, Nat.zero_add _, id, K0, L0, pl, .inl rfl, aF⟩
  obtain ⟨t, h1, g1, tk1, vd, pz, H, K, en, ps1, ps2, rfl, htn, gs, KK, X, pl, hpz, aF⟩ := hI
  cases n with
  | zero =>
    refine next_none hA X.sta.G X.aI ?_
    intro h2 tk2 K2 G2
    show wpAny _ _ (execs (foO ((B176 w).drop 8)) (E176 w F)) _ _ _
    rw [show foO ((B176 w).drop 8) = [] from by kernel_rfl]
    exact wpAny_pure (k h2 g1 tk2 gs (trans_old KK K2 (fun _ q => absurd q (nin0 _))) G2 ⟨_, X.t1.kp K2 (nin0 _)⟩ ⟨_, X.t2.kp K2 (nin0 _)⟩ ⟨_, aF.kp K2 (nin0 _)⟩)
  | succ n =>
    refine next_some hA X.sta.G X.aI ?_
    intro h2 tk2 ut K2 G2 aI2
    replace aF := aF.kp K2 (nin1 (ne_of_cls aF.1 X.aI.1 (by kernel_rfl)))
    replace pl := pl.kp K2 (Aside.of (kind1 X.aI.1 (.inr (.inl rfl))))
    have tn : Turns h1 [it] := kind1 X.aI.1 (.inr (.inr (.inl rfl)))
    replace X : Es w h2 F P fl Pi Dr Tb it ed ps hs tqs vs dvs zs nP nf kh nD nT ne hcs (t + 1) n rows ps1 ps2 :=
      ⟨X.sta.kp G2 K2 tn, tn.off X.ae K2 (by simp) (by simp) (by simp) (by simp), X.lz.kp K2 tn.nols, aI2, X.t1.kpc K2 (kind1 X.aI.1 (by simp)), X.t2.kpc K2 (kind1 X.aI.1 (by simp))⟩
    replace KK := trans_old KK K2 (by intro a ha; rw [List.mem_singleton.mp ha]; exact .inl fI)
    clear K2 G2 aI2 tn
    have oF : ∀ a ∈ [F], h₀.get? a = none ∨ a ∈ ([63, 70] : List Addr) := by intro a ha; rw [List.mem_singleton.mp ha]; exact .inl fF
    show wpAny _ _ (assign (foT ((B176 w).drop 8)) (E176 w F) (.int (t : Nat) ut)) _ _ _
    refine asg_k hA X.sta.G hpz aF ?_
    intro h3 tk3 H3 K3' en3 K3 G3 aF3
    replace X := X.kp G3 K3 (kind1 aF.1 (.inl rfl))
    replace pl := pl.kp K3 (Aside.of (kind1 aF.1 (.inl rfl)))
    replace KK := trans_old KK K3 oF
    clear aF K3 G3
    have htr : t < rows.length := by omega
    obtain ⟨r, er⟩ : ∃ r, rows[t]? = some r := ⟨_, List.getElem?_eq_getElem htr⟩
    obtain ⟨pp, ep⟩ : ∃ r, ps[t]? = some r := ⟨_, List.getElem?_eq_getElem (by omega)⟩
    obtain ⟨f, ef⟩ : ∃ r, fs[t]? = some r := ⟨_, List.getElem?_eq_getElem (by omega)⟩
    have hf1 := hf3 f (List.mem_of_getElem? ef)
    have hrr := hr1 r (List.mem_of_getElem? er)
    have hvl := hf.length
    have hzl := X.lz.length
    obtain ⟨p, d, nn, qs, s, s1, s2, rfl, ap, ad, rq⟩ := pl t pp f r (Nat.le_refl _) ep ef er
    have hql : qs.length = r.length := by rw [rq.length, List.length_map]
    obtain ⟨l, el, rs, nl, al, rr⟩ := X.lz.get er
    have hrs : rs.length = r.length := by rw [rr.length, List.length_map]
    refine ends_a hA (by omega) (by omega) X.sta.G hpz aF3 X.sta.c2 X.sta.aP X.sta.af hf (by omega) hPf ap ad rq (short_pcs _ (by omega)) ef (by omega) ep (by omega) X.ae el (by omega) hPe hfe al rr X.t1 X.t2 ?_
    intro h4 g4 tk4 ps1' ps2' K4 G4 tb1 tb2 gs4
    have kn : ∀ a ∈ ([63, 70] : List Addr), ∀ o, h3.get? a = some o → o.cls = .none := kind2 X.t1.1.1 rfl X.t2.1.1 rfl
    have tn : Turns h3 [63, 70] := fun a ha o e => .inr (.inr (.inr (kn a ha o e)))
    have as : Aside h3 [63, 70] := Aside.of fun a ha o e => .inr (.inr (kn a ha o e))
    replace ap := ap.kp K4 (fun q => by have := kn _ q _ ap.1; simp at this)
    replace ad := ad.kp K4 (fun q => by have := kn _ q _ ad.1; simp at this)
    replace rq := rq.kpc K4 tn.ntup
    replace al := tn.off al K4 (by simp) (by simp) (by simp) (by simp)
    replace rr := rr.kpc K4 tn.ntup
    replace aF3 := aF3.kp K4 (fun q => by have := kn _ q _ aF3.1; simp at this)
    replace pl := pl.kp K4 as
    replace X : Es w h4 F P fl Pi Dr Tb it ed ps hs tqs vs dvs zs nP nf kh nD nT ne hcs (t + 1) n rows ps1' ps2' :=
      ⟨X.sta.kp G4 K4 tn, tn.off X.ae K4 (by simp) (by simp) (by simp) (by simp), X.lz.kp K4 tn.nols, X.aI.kp K4 (fun q => by have := kn _ q _ X.aI.1; simp at this), tb1, tb2⟩
    replace KK := trans_old KK K4 (fun a ha => .inr ha)
    clear K4 G4 kn tn as tb1 tb2
    obtain ⟨gcs, hg1, hg2⟩ : ∃ gcs, ((t % 2 = 1 ∧ gcs = r.map pc) ∨ (t % 2 ≠ 1 ∧ (∃ q, qs = [q]) ∧ gcs = r.map pc) ∨ (t % 2 ≠ 1 ∧ qs = [] ∧ gcs = ([("", "")] : List (Str × Str)))) ∧ ((t % 2 = 1 ∧ gcs = r.map pc) ∨ (t % 2 ≠ 1 ∧ rs ≠ [] ∧ gcs = r.map pc) ∨ (t % 2 ≠ 1 ∧ rs = [] ∧ gcs = ([("", "")] : List (Str × Str)))) := by
      by_cases hb : t % 2 = 1
      · exact ⟨_, .inl ⟨hb, rfl⟩, .inl ⟨hb, rfl⟩⟩
      · by_cases hz : r.length = 0
        · exact ⟨_, .inr (.inr ⟨hb, List.eq_nil_of_length_eq_zero (by omega), rfl⟩), .inr (.inr ⟨hb, List.eq_nil_of_length_eq_zero (by omega), rfl⟩)⟩
        · refine ⟨_, .inr (.inl ⟨hb, List.length_eq_one_iff.mp (by omega), rfl⟩), .inr (.inl ⟨hb, fun z => ?_, rfl⟩)⟩
          rw [z] at hrs
          exact hz hrs.symm
    refine ends_b hA (by omega) X.sta.G hpz aF3 X.sta.c2 X.sta.aP ap ad rq (by omega) ep (by omega) hg1 ?_
    intro h5 tk5 H5 K5' en5 gl ng gq n5 K5 G5 aF5 ag rg fg ap5
    have tn : Turns h4 [F, p + 182] := kind2 aF3.1 (.inl rfl) ap.1 (.inr (.inl rfl))
    replace ad := ad.kp K5 (nin2 (ne_of_cls ad.1 aF3.1 (by kernel_rfl)) (ne_of_cls ad.1 ap.1 (by kernel_rfl)))
    replace al := tn.off al K5 (by simp) (by simp) (by simp) (by simp)
    replace rr := rr.kpc K5 tn.ntup
    replace X := X.kp G5 K5 (kind2 aF3.1 (.inl rfl) ap.1 (.inr rfl))
    have pl5 : PlF w h5 (t + 1) ps fs rows := by
      intro j pj fj rj hj e1 e2 e3
      have x := pl j pj fj rj (by omega) e1 e2 e3
      obtain ⟨_, _, _, xo⟩ := x.obj
      refine x.kpn K5 (nin2 (ne_of_cls xo.1 aF3.1 (by kernel_rfl)) (fun z => ?_)) (kind2 aF3.1 ⟨by simp, by simp⟩ ap.1 ⟨by simp, by simp⟩)
      have := nodup_get nd e1 (z ▸ ep)
      omega
    replace KK := trans_old KK K5 (by
      intro a ha
      rcases List.mem_cons.mp ha with rfl | ha
      · exact .inl fF
      · rw [List.mem_singleton.mp ha]; exact .inl (fps _ (List.mem_of_getElem? ep)))
    clear aF3 ap rq pl K5 G5 tn
    refine ends_c hA (by omega) X.sta.G aF5 X.ae el (by omega) al rr ag rg hg2 ?_
    intro h6 tk6 K6 G6
    replace X := X.kp G6 K6 c0
    replace pl5 := pl5.kp K6 aside0
    replace KK := trans_old KK K6 (fun _ q => absurd q (nin0 _))
    replace aF5 := aF5.kp K6 (nin0 _)
    replace ap5 := ap5.kp K6 (nin0 _)
    replace ad := ad.kp K6 (nin0 _)
    clear K6 G6 al rr ag rg
    refine ends_d (cs := []) (zs := zs) (rs := []) (nl := 0) (ne := 0) (l := 0) hA (by omega) (by omega) X.sta.G (.inr ⟨_, rfl⟩) aF5 X.sta.c2 X.sta.aP X.sta.af hf (by omega) hPf ap5 ad .nil (short_pcs [] (by simp)) ef (by omega) ep (by omega) X.t1 X.t2 rfl ?_
    intro h7 g7 tk7 ps1' ps2' K7 G7 tb1 tb2 gs7
    have kn : ∀ a ∈ ([63, 70] : List Addr), ∀ o, h6.get? a = some o → o.cls = .none := kind2 X.t1.1.1 rfl X.t2.1.1 rfl
    have tn : Turns h6 [63, 70] := fun a ha o e => .inr (.inr (.inr (kn a ha o e)))
    rw [show (B8 w).drop 4 = [] from by kernel_rfl]
    exact wpAny_pure ⟨n, Nat.lt_succ_self _, t + 1, h7, g7, tk7, _, _, _, _, _, ps1', ps2', rfl, by omega, fun x => gs7 (gs4 (gs x)), trans_old KK K7 (fun a ha => .inr ha), ⟨X.sta.kp G7 K7 tn, tn.off X.ae K7 (by simp) (by simp) (by simp) (by simp), X.lz.kp K7 tn.nols, X.aI.kp K7 (fun q => by have := kn _ q _ X.aI.1; simp at this), tb1, tb2⟩, pl5.kp K7 (Aside.of fun a ha o e => .inr (.inr (kn a ha o e))), .inr ⟨_, rfl⟩, aF5.kp K7 (fun q => by have := kn _ q _ aF5.1; simp at this)⟩
theorem run_j {E : Value → Shared → Prop} {Q : Flow → Shared → Prop} {F : Addr}
    (hA : A.handled = none) (G : Gd w h) (k' : ∀ h' tk', Kp [] h h' → Gd w h' → Q (.ret (.bool true)) ⟨h', g, dr, tk', os⟩) :
    wpAny (model pw w) A (execs ((B176 w).drop 9) (E176 w F)) Q E ⟨h, g, dr, tk, os⟩ := by
  obtain ⟨Z, D⟩ : ∃ Z, Rep (KTw w) h [] h [] Z := Rep.initC (T := []) G on (by kernel_rfl)
  refine top_execs (R := fun _ _ => True) ?_
  intro θ
  refine eng 1 0 (by exact hA) D (by kernel_rfl) ?_
  intro χ1 h1 D1
  refine finQ (f := .done (.ret (.bool true))) (by kernel_rfl) ?_
  exact k' h1 _ D1.keep D1.gd
theorem run_i {E : Value → Shared → Prop} {Q : Flow → Shared → Prop} {h₀ h : Heap} {F P fl Pi Dr Tb rk ed : Addr} {ps hs tqs : List Addr} {vs dvs zs : List Value} {nP nf kh nD nT ne half ld en : Nat} {H : Nat → Int} {K : Nat → Tok} {hcs : List (Str × Str)} {u1 u2 : Tok} {v1 v2 va vb vc vd : Value} {fs : List Nat} {rows : List (List Nat)} {ps1 ps2 : Array Value}
    (hA : A.handled = none) (hd : A.depth + 400 < recursionLimit) (hu : A.units + 600 < cLine) (hrl : rows.length ≤ 100) (hr1 : ∀ r ∈ rows, r.length ≤ 1) (hps : ps.length = rows.length) (nd : ps.Nodup) (hf : NatsAre vs fs) (hfl : fs.length = rows.length) (hf3 : ∀ f ∈ fs, f < 3)
    (hPf : P ≠ fl) (hPe : P ≠ ed) (hfe : fl ≠ ed) (fF : h₀.get? F = none) (fps : ∀ p ∈ ps, h₀.get? p = none)
    (K0 : Kp [63, 70] h₀ h) (sta : Sta w h F P fl Pi Dr Tb ps hs tqs vs dvs nP nf kh nD nT hcs) (ae : At w h ed (lstX zs.toArray ne)) (lz : LsAre w h zs rows) (t1 : TbA w h 63 ps1) (t2 : TbA w h 70 ps2) (pl : PlF w h 0 ps fs rows) (aF : At w h F (frL H K (run9 half ld u1 u2 Pi Dr fl v1 v2 va vb vc vd rk ed []) en))
    (k' : ∀ h' g' tk', (AllBare g → AllBare g') → Kp [63, 70] h₀ h' → (∃ p, TbA w h' 63 p) → (∃ p, TbA w h' 70 p) → Q (.ret (.bool true)) ⟨h', g', dr, tk', os⟩) :
    wpAny (model pw w) A (execs ((B176 w).drop 8) (E176 w F)) Q E ⟨h, g, dr, tk, os⟩ := by
  obtain ⟨Z, D⟩ : ∃ Z, Rep (KTw w) h [F, ed] h [(F, frL H K (run9 half ld u1 u2 Pi Dr fl v1 v2 va vb vc vd rk ed []) en), (ed, lstX zs.toArray ne)] Z := Rep.initC (T := [(F, frL H K (run9 half ld u1 u2 Pi Dr fl v1 v2 va vb vc vd rk ed []) en), (ed, lstX zs.toArray ne)]) sta.G (oc aF (oc ae on)) (by kernel_rfl)
  have hzl := lz.length
  refine atCut 1 ?_
  refine top_execs (R := fun _ _ => True) ?_
  intro θ
  refine eng 10 18446744073709551616 (by exact hA) D (by kernel_rfl) ?_
  intro χ1 h1 D1
  refine hook (c' := .call (.builtin "len") ⟨[.ref ed], []⟩) (by kernel_rfl) ?_
  refine lenlst_spec (vs := zs) (n := ne) (ac_handled hA) D1.gd (D1.at_ 1 (by kernel_rfl)) (by omega) ?_
  intro h2 tk2 t2' K2
  rw [hzl]
  refine Exists.elim ((D1.same K2).ex) ?_
  intro Z2 D2
  refine eng 23 96155115723275105082016129848715507518023704233639936 (by exact hA) D2 (by kernel_rfl) ?_
  intro χ3 h3 D3
  refine eng2 "special-get-raises" 1 0 1 0 (by exact hA) D3 (by kernel_rfl) ?_
  intro χ4 h4 D4
  refine hook (c' := .call (.builtin "range.__iter__") ⟨[.ref (adrAt χ4.T 0)], []⟩) (by kernel_rfl) ?_
  refine riter_spec (n := rows.length) (t := fdT (objAt χ4.T 0) 0) (u := t2') (v := fdT (objAt χ4.T 0) 2) D4.gd (D4.at_ (a := adrAt χ4.T 0) (o := rgO 0 (rows.length : Nat) (fdT (objAt χ4.T 0) 0) t2' (fdT (objAt χ4.T 0) 2)) 0 (by kernel_rfl)) (by omega) ?_
  intro h13 it K13 aI fI
  refine Exists.elim ((D4.plus K13 aI fI).ex) ?_
  intro Z13 D13
  refine eng 1 1 (by exact hA) D13 (by kernel_rfl) ?_
  intro χ14 h14 D14
  refine hook (c' := .forLoop (foT ((B176 w).drop 8)) (.ref it) (B8 w) (foO ((B176 w).drop 8)) (E176 w F)) (by kernel_rfl) ?_
  have KL : Kp [] h h14 := Rep.kpF 2 [true, true] D D14 (by kernel_rfl)
  have KK := trans_old K0 KL (fun _ q => absurd q (nin0 _))
  have aI14 := D14.at_ (a := it) (o := riO 0 (rows.length : Nat)) 0 (by kernel_rfl)
  have fI' := K0.fresh (D14.fresh_n (a := it) (o := riO 0 (rows.length : Nat)) 0 2 (by kernel_rfl) rfl (by kernel_rfl))
  refine ends_loop (ac_handled hA) (depL (b := A.depth) 0 (by kernel_rfl) hd rfl) (depL (b := A.units) 0 (by kernel_rfl) hu rfl) hrl hr1 hps nd hf hfl hf3 hPf hPe hfe fF fI' fps KK ⟨sta.kp D14.gd KL turns0, ae.kp KL (nin0 _), lz.kp KL turns0.nols, aI14, t1.kp KL (nin0 _), t2.kp KL (nin0 _)⟩ (pl.kp KL aside0) (aF.kp KL (nin0 _)) ?_
  intro h15 g15 tk15 gs KK15 G15 tb1 tb2 _
  refine finQ (f := .done .next) (by kernel_rfl) ?_
  refine run_j hA G15 ?_
  intro h16 tk16 K16 G16
  exact k' h16 g15 tk16 gs (trans_old KK15 K16 (fun _ q => absurd q (nin0 _))) (tb1.imp fun _ x => x.kp K16 (nin0 _)) (tb2.imp fun _ x => x.kp K16 (nin0 _))
theorem MadeL.places {h₀ h' : Heap} {zs : List Value} {fs : List Nat} (x : MadeL w h₀ h' zs fs) : ∃ ps : List Addr, zs = ps.map .ref ∧ ps.length = fs.length ∧ ps.Nodup ∧ (∀ p ∈ ps, h₀.get? p = none) ∧ ∀ (j : Nat) (p : Addr) (f : Nat), ps[j]? = some p → fs[j]? = some f → Acc w h' p (f : Nat) [] := by
  induction x with
  | nil => exact ⟨[], rfl, rfl, List.nodup_nil, by simp, by simp⟩
  | @cons p d n s t1 t2 zs f fs a b e e' nn _ ih =>
    obtain ⟨ps, rfl, hl, nd, fr, ac⟩ := ih
    refine ⟨(p + 182) :: ps, rfl, by simp [hl], List.nodup_cons.mpr ⟨fun q => nn (List.mem_map_of_mem q), nd⟩, ?_, ?_⟩
    · intro q hq
      rcases List.mem_cons.mp hq with rfl | hq
      · exact e
      · exact fr q hq
    · intro j q f' h1 h2
      cases j with
      | zero =>
        simp only [List.getElem?_cons_zero, Option.some.injEq] at h1 h2
        subst h1 h2
        exact ⟨p, d, n, [], s, t1, t2, rfl, a, b, .nil⟩
      | succ j => exact ac j q f' (by simpa using h1) (by simpa using h2)
theorem start_get {half : Nat} {pcsR : List Nat} {j : Nat} {r : List Nat} (e : (Chip.start half pcsR)[j]? = some r) : (j = half ∧ r = pcsR) ∨ (j ≠ half ∧ r = []) := by
  unfold Chip.start at e
  rcases Nat.lt_trichotomy j half with hj | hj | hj
  · rw [List.getElem?_append_left (by simpa using hj)] at e
    exact .inr ⟨by omega, List.eq_of_mem_replicate (List.mem_of_getElem? e)⟩
  · subst hj
    rw [List.getElem?_append_right (by simp)] at e
    simp at e
    exact .inl ⟨rfl, e.symm⟩
  · rw [List.getElem?_append_right (by simp; omega)] at e
    obtain ⟨m, hm⟩ : ∃ m, j - (List.replicate half ([] : List Nat)).length = m + 1 := ⟨j - half - 1, by simp; omega⟩
    rw [hm, List.getElem?_cons_succ] at e
    exact .inr ⟨by omega, List.eq_of_mem_replicate (List.mem_of_getElem? e)⟩
theorem ends_one {half : Nat} {srt : List Nat} : ∀ r ∈ Chip.ends half srt, r.length ≤ 1 := by
  intro r hr
  unfold Chip.ends at hr
  rcases List.mem_append.mp hr with hr | hr
  · rcases List.mem_append.mp hr with hr | hr
    · obtain ⟨x, _, rfl⟩ := List.mem_map.mp hr; simp
    · rw [List.mem_singleton.mp hr]; simp
  · obtain ⟨x, _, rfl⟩ := List.mem_map.mp hr; simp
theorem ends_len {half : Nat} {srt : List Nat} (h : srt.length = 2 * half) : (Chip.ends half srt).length = 2 * half + 1 := by
  simp [Chip.ends, h]; omega
theorem ends_small {half : Nat} {srt : List Nat} : True := trivial
theorem run_spec {Pi Dr Tb : Addr} {ld half kh nD nT : Nat} {u1 u2 : Tok} {hs tqs : List Addr} {dvs : List Value} {dns pcsR : List Nat} {ps1 ps2 : Array Value}
    (hA : A.handled = none) (hd : A.depth + 600 < recursionLimit) (hu : A.units + 800 < cLine) (G : Gd w h) (h2' : 2 ≤ half) (h4 : half ≤ 4) (hld : ld < 4) (hp : pcsR.length = 2 * half) (h8 : ∀ x ∈ pcsR, x < 8)
    (ah : At w h Pi (lstO (hs.map .ref) kh)) (rh : Row w h hs (pcsR.map pc)) (aD : At w h Dr (lstX dvs.toArray nD)) (hD : NatsAre dvs dns) (hDl : dvs.length ≤ 100) (hD0 : 0 < dvs.length) (hDb : ∀ x ∈ dns, x < 2 ^ 60) (aT : At w h Tb (lstO (tqs.map .ref) nT)) (rT : Row w h tqs pcs)
    (t1 : TbA w h 63 ps1) (t2 : TbA w h 70 ps2) (zZ : ∃ o, h.get? 182 = some o)
    (k : ∀ h' g' tk', (AllBare g → AllBare g') → Kp [63, 70] h h' → (∃ p, TbA w h' 63 p) → (∃ p, TbA w h' 70 p) → R (.ok (.ret (.bool true))) ⟨h', g', dr, tk', os⟩) :
    codeAny (model pw w) A (.call (.ref 176) ⟨[.int half u1, .ref Pi, .ref Dr, .int ld u2, .ref Tb], []⟩) R ⟨h, g, dr, tk, os⟩ := by
  have hhl : hs.length = 2 * half := by rw [rh.length, List.length_map, hp]
  refine run_a hA (by omega) G (by omega) ?_
  intro h1 tk1 F H1 K1' en1 fl nf vs K1 G1 aF cT cP afl hvs fF fF1 fF2 ffl
  obtain ⟨fs, hfs⟩ : ∃ fs, fs = (List.range' 0 (2 * half + 1)).map (· % 3) := ⟨_, rfl⟩
  rw [← hfs] at hvs
  have hfl : fs.length = 2 * half + 1 := by rw [hfs]; simp
  have hf3 : ∀ f ∈ fs, f < 3 := by
    intro f hf
    rw [hfs] at hf
    obtain ⟨x, _, rfl⟩ := List.mem_map.mp hf
    exact Nat.mod_lt _ (by decide)
  have hvl := hvs.length
  refine run_b (by exact hA) (by show A.depth + 1 + 100 < _; omega) (by show A.units + 3 + 300 < _; omega) G1 aF cP afl hvs (by omega) (by obtain ⟨o, e⟩ := zZ; exact K1.1 _ _ e) ?_
  intro h2 tk2 P nP zs K2 G2 cP2 aP hm fP1
  obtain ⟨ps, rfl, hpl, nd, fps1, acs⟩ := hm.places
  have fps : ∀ p ∈ ps, h.get? p = none := fun p q => K1.fresh (fps1 p q)
  have fP := K1.fresh fP1
  have nPfl : P ≠ fl := old_ne afl.1 fP1
  have kc : ∀ a ∈ [F + 2], ∀ o, h1.get? a = some o → o.cls = .type "cell" := kind1 cP.1 rfl
  have off2 : ∀ {x o}, At w h1 x o → o.cls ≠ .type "cell" → At w h2 x o := fun a n => a.kp K2 fun q => n (kc _ q _ a.1)
  replace aF := off2 aF (by simp)
  replace cT : At w h2 (F + 1) (cellO (.ref Tb)) := cT.kp K2 (nin1 (Nat.ne_of_lt (Nat.lt_succ_self (F + 1))))
  replace afl := off2 afl (by simp)
  have ah2 := off2 (ah.kp K1 (nin0 _)) (by simp)
  have aD2 := off2 (aD.kp K1 (nin0 _)) (by simp)
  have aT2 := off2 (aT.kp K1 (nin0 _)) (by simp)
  have rh2 := (rh.kp0 K1).kpc K2 (fun a ha o e => by rw [kc a ha o e]; simp)
  have rT2 := (rT.kp0 K1).kpc K2 (fun a ha o e => by rw [kc a ha o e]; simp)
  have t12 := (t1.kp K1 (nin0 _)).kpc K2 (fun a ha o e => by rw [kc a ha o e]; simp)
  have t22 := (t2.kp K1 (nin0 _)).kpc K2 (fun a ha o e => by rw [kc a ha o e]; simp)
  have KK : Kp [63, 70] h h2 := trans_old (trans_old (Kp.refl _ _) K1 (fun _ q => absurd q (nin0 _))) K2 (by intro a ha; rw [List.mem_singleton.mp ha]; exact .inl fF2)
  clear cP K2 hm kc off2
  obtain ⟨pp, ep⟩ : ∃ p, ps[half]? = some p := ⟨_, List.getElem?_eq_getElem (by omega)⟩
  obtain ⟨ff, ef⟩ : ∃ p, fs[half]? = some p := ⟨_, List.getElem?_eq_getElem (by omega)⟩
  obtain ⟨p, d, n0, qs0, s, s1, s2, rfl, ap, ad, rq⟩ := acs half pp ff ep ef
  have hq0 : qs0.length = 0 := rq.length
  refine run_c (by exact hA) (by show A.depth + 1 + 100 < _; omega) G2 aF cP2 aP ap ad ah2 ep (by omega) rq rh2 (by omega) (fun z => by rw [z] at hhl; simp at hhl; omega) ?_
  intro h3 tk3 v1 v2 H3 K3' en3 n3 qs3 K3 G3 aF3 ap3 rq3
  have tn : Turns h2 [F, p + 182] := kind2 aF.1 (.inl rfl) ap.1 (.inr (.inl rfl))
  have sta : Sta w h3 F P fl Pi Dr Tb ps hs tqs vs dvs nP nf kh nD nT (pcsR.map pc) := Sta.kp ⟨G2, cT, cP2, aP, afl, ah2, aD2, aT2, rh2, rT2⟩ G3 K3 tn
  have ad3 := ad.kp K3 (nin2 (ne_of_cls ad.1 aF.1 (by kernel_rfl)) (ne_of_cls ad.1 ap.1 (by kernel_rfl)))
  have t13 := t12.kpc K3 (kind2 aF.1 (by simp) ap.1 (by simp))
  have t23 := t22.kpc K3 (kind2 aF.1 (by simp) ap.1 (by simp))
  have pl3 : Pl w h3 ps fs (Chip.start half pcsR) := by
    have hsl : (Chip.start half pcsR).length = 2 * half + 1 := by simp [Chip.start]; omega
    refine ⟨by rw [hsl, hpl, hfl], by rw [hsl, hfl], nd, fun j q f r e1 e2 e3 => ?_⟩
    rcases start_get e3 with ⟨rfl, rfl⟩ | ⟨hj, rfl⟩
    · rw [ep] at e1; rw [ef] at e2
      cases e1; cases e2
      exact ⟨p, d, n3, qs3, s, s1, s2, rfl, ap3, ad3, rq3⟩
    · have x := acs j q f e1 e2
      obtain ⟨_, _, _, xo⟩ := x.obj
      refine x.kpn K3 (nin2 (ne_of_cls xo.1 aF.1 (by kernel_rfl)) (fun z => hj (nodup_get nd (z ▸ e1) ep))) (kind2 aF.1 ⟨by simp, by simp⟩ ap.1 ⟨by simp, by simp⟩)
  replace KK := trans_old KK K3 (by
    intro a ha
    rcases List.mem_cons.mp ha with rfl | ha
    · exact .inl fF
    · rw [List.mem_singleton.mp ha]; exact .inl (fps _ (List.mem_of_getElem? ep)))
  have hf1 := hf3 ff (List.mem_of_getElem? ef)
  clear aF ap ad rq K3 tn t12 t22 acs rh2 rT2 aT2 aD2 ah2 afl cT cP2 aP
  refine run_d (by exact hA) (by show A.depth + 1 + 100 < _; omega) (by show A.units + 3 + 400 < _; omega) G3 aF3 sta.c2 sta.aP sta.af hvs (by omega) nPfl ap3 ad3 rq3 (short_pcs _ (by omega)) ef (by omega) ep (by omega) sta.ah sta.rh t13 t23 ?_
  intro h4' g4 tk4 ps1' ps2' K4 G4 t14 t24 gs4
  have kn : ∀ a ∈ ([63, 70] : List Addr), ∀ o, h3.get? a = some o → o.cls = .none := kind2 t13.1.1 rfl t23.1.1 rfl
  have tn : Turns h3 [63, 70] := fun a ha o e => .inr (.inr (.inr (kn a ha o e)))
  replace sta := sta.kp G4 K4 tn
  replace pl3 := pl3.kp K4 (Aside.of fun a ha o e => .inr (.inr (kn a ha o e)))
  replace aF3 := aF3.kp K4 (fun q => by have := kn _ q _ aF3.1; simp at this)
  replace KK := trans_old KK K4 (fun a ha => .inr ha)
  clear K4 kn tn ap3 ad3 rq3 t13 t23 G3
  refine run_e (by exact hA) (by show A.depth + 1 + 400 < _; omega) (by show A.units + 3 + 600 < _; omega) h2' h4 hp (by omega) hvs hfl hf3 hD hDl hD0 hDb nPfl hld fF fps KK sta aF3 pl3 (Chip.Inv.start (desc := decide (2 ≤ ld)) hp h8) t14 t24 ?_
  intro h5 g5 tk5 it gs5 KK5 fI L
  obtain ⟨sta5, ⟨pz, H5, K5', en5, hpz, aF5, hz0⟩, aI5, ⟨⟨qs1, tb1⟩, qs2, tb2⟩, rows, pl5, inv5⟩ := L
  have hN0 : Chip.turns half ≠ 0 := by
    have : half = 2 ∨ half = 3 ∨ half = 4 := by omega
    rcases this with rfl | rfl | rfl <;> decide
  rcases hpz with rfl | ⟨va, vb, vc, vd, rfl⟩
  · exact absurd rfl (hz0 hN0)
  refine run_f (by exact hA) (by show A.units + 3 + 300 < _; omega) sta5.G aF5 sta5.c1 sta5.ah sta5.aT sta5.rT sta5.rh h8 (by omega) ?_
  intro h6 tk6 H6 K6' en6 rk nr out ns K6 G6 aF6 ark frk hns hperm hpw
  have oF : ∀ a ∈ [F], h.get? a = none ∨ a ∈ ([63, 70] : List Addr) := by intro a ha; rw [List.mem_singleton.mp ha]; exact .inl fF
  have sta6 := sta5.kp G6 K6 (kind1 aF5.1 (.inl rfl))
  have pl6 := pl5.kp K6 (Aside.of (kind1 aF5.1 (.inl rfl)))
  have tb16 := tb1.kpc K6 (kind1 aF5.1 (by simp))
  have tb26 := tb2.kpc K6 (kind1 aF5.1 (by simp))
  have KK6 := trans_old KK5 K6 oF
  have hol : out.length ≤ 100 := by rw [hns.length, hperm.length_eq]; omega
  clear sta5 pl5 tb1 tb2 K6 KK5 aF5 aI5
  refine run_g (by exact hA) sta6.G aF6 ark hns hol ?_
  intro h7 tk7 H7 K7' en7 rk7 nr7 out7 K7 G7 aF7 ark7 hns7
  have sta7 := sta6.kp G7 K7 (kind1 aF6.1 (.inl rfl))
  have pl7 := pl6.kp K7 (Aside.of (kind1 aF6.1 (.inl rfl)))
  have tb17 := tb16.kpc K7 (kind1 aF6.1 (by simp))
  have tb27 := tb26.kpc K7 (kind1 aF6.1 (by simp))
  have KK7 := trans_old KK6 K7 oF
  clear sta6 pl6 tb16 tb26 K7 KK6 aF6 ark
  obtain ⟨srt, hsrt⟩ : ∃ srt, srt = if 1 < ld then ns.reverse else ns := ⟨_, rfl⟩
  rw [← hsrt] at hns7
  have hsp : srt.Perm pcsR := by
    rw [hsrt]
    split
    · exact (List.reverse_perm ns).trans hperm
    · exact hperm
  have hspw : srt.Pairwise (fun a b => if decide (2 ≤ ld) then b ≤ a else a ≤ b) := by
    rw [hsrt]
    by_cases hl : 1 < ld
    · rw [if_pos hl, List.pairwise_reverse]
      refine hpw.imp ?_
      intro a b x
      rw [if_pos (by rw [decide_eq_true_eq]; omega)]
      exact x
    · rw [if_neg hl]
      refine hpw.imp ?_
      intro a b x
      rw [if_neg (by rw [decide_eq_true_eq]; omega)]
      exact x
  have hsl : srt.length = 2 * half := by rw [hsp.length_eq, hp]
  have hrows := inv5.fin h2' h4 hp hsp hspw
  subst hrows
  refine run_h (by exact hA) sta7.G aF7 sta7.c1 ark7 hns7 (by rw [hns7.length, hsl]; omega) (fun n x => h8 n (hsp.mem_iff.mp x)) sta7.aT sta7.rT ?_
  intro h9 tk9 H9 K9' en9 ed ne zs K9 G9 aF9 aed lz fed
  have sta9 := sta7.kp G9 K9 (kind1 aF7.1 (.inl rfl))
  have pl9 := pl7.kp K9 (Aside.of (kind1 aF7.1 (.inl rfl)))
  have tb19 := tb17.kpc K9 (kind1 aF7.1 (by simp))
  have tb29 := tb27.kpc K9 (kind1 aF7.1 (by simp))
  have KK9 := trans_old KK7 K9 oF
  have nPe : P ≠ ed := Ne.symm (old_ne sta7.aP.1 fed)
  have nfe : fl ≠ ed := Ne.symm (old_ne sta7.af.1 fed)
  have hel := ends_len hsl
  refine run_i (by exact hA) (by show A.depth + 1 + 400 < _; omega) (by show A.units + 3 + 600 < _; omega) (by omega) ends_one (by rw [hel, hpl, hfl]) nd hvs (by rw [hel, hfl]) hf3 nPfl nPe nfe fF fps KK9 sta9 aed lz tb19 tb29 (fun j q f r _ e1 e2 e3 => pl9.acc j q f r e1 e2 e3) (by rw [show run9 half ld u1 u2 Pi Dr fl v1 v2 va vb vc vd rk7 ed [] = run8 half ld u1 u2 Pi Dr fl v1 v2 va vb vc vd rk7 ed from List.append_nil _]; exact aF9) ?_
  intro h10 g10 tk10 gs10 KK10 T1 T2
  exact k h10 g10 tk10 (fun x => gs10 (gs5 (gs4 x))) KK10 T1 T2
noncomputable def twO (w : World) : Obj := unO ((KTw w).get 181)
noncomputable def lawFd (w : World) : FuncData := fdOf (some (twO w))
noncomputable abbrev lawO (w : World) : Obj := twO w
noncomputable abbrev B181 (w : World) : List Stmt := bodyAt (lawFd w)
noncomputable abbrev E181 (w : World) (F : Addr) : Env := envAt 181 (lawFd w) F
theorem enterL (j : Nat) {prog : Program} {Q : Fin → Shared → Prop} {E : Value → Shared → Prop} {cur : Option Code} {t : Sem Fin} {fr : Frs} {h₀ h : Heap} {ks : List Addr} {T : DT} {Z : Nat} {d : Drawn} (D : Rep (KTw w) h₀ ks h T Z) (hc : cur = some (unC cur)) (hf : fr = [])
    (e : t = enterBy (.func (B181 w) (E181 w (adrAt T j)))) (hw : (unC cur).weight = 0) (hd : A.depth < recursionLimit)
    (h' : codeAny (model prog w) A (.func (B181 w) (E181 w (adrAt T j))) R ⟨h, g, d, tk, os⟩) :
    Mean prog w A Q E R cur t fr ⟨h, g, d, tk, os⟩ := enter0 hc hf e hw (noLimitW D) hd rfl h'
abbrev law1 (half : Nat) (u : Tok) : List (Str × Value) := [("script", .ref 182), ("half", .int half u)]
def halfOf (n : Nat) : Nat := if 8 < n then 4 else if 3 < n then 3 else 2
structure Run1 (w : World) (A : Around) (b : List Stmt) (env : Env) (Q : Flow → Shared → Prop) (E : Value → Shared → Prop) (s : Shared) : Prop where
  go : wpAny (model pw w) A (execs b env) Q E s
theorem law_a {nS : Nat} {vs : List Value}
    (hA : A.handled = none) (hd : A.depth + 40 < recursionLimit) (G : Gd w h) (aL : At w h 181 (lawO w)) (aS : At w h 182 (lstX vs.toArray nS)) (hl : vs.length ≤ 63)
    (k : ∀ h' tk' F H K en u, Kp [] h h' → Gd w h' → At w h' F (frL H K (law1 (halfOf vs.length) u) en) → At w h' (F + 1) cell0 → h.get? F = none → h.get? (F + 1) = none →
      Run1 w (A.deeper (E181 w F)) ((B181 w).drop 1) (E181 w F) (fun f s' => R (.ok (.ret (valOf f))) s') (fun _ _ => False) ⟨h', g, dr, tk', os⟩) :
    codeAny (model pw w) A (.call (.ref 181) ⟨[.ref 182], []⟩) R ⟨h, g, dr, tk, os⟩ := by
  obtain ⟨Z, D⟩ : ∃ Z, Rep (KTw w) h [181, 182] h [(181, lawO w), (182, lstX vs.toArray nS)] Z := ⟨_, Rep.init (T := [(181, lawO w), (182, lstX vs.toArray nS)]) G (oc aL (oc aS on)) (by simp)⟩
  refine Mine.start (Q := fun _ _ => True) (E := fun _ _ => True) ?_
  refine eng 8 144678138029277185 (by exact hA) D (by kernel_rfl) ?_
  intro χ1 h1 D1
  refine enterL 1 D1 (by kernel_rfl) (by kernel_rfl) (by kernel_rfl) (by kernel_rfl) (by omega) ?_
  refine body ?_
  refine atCut 1 ?_
  refine top_execs (R := R) ?_
  intro θ
  refine eng 8 562949953421312 (by exact hA) D1 (by kernel_rfl) ?_
  intro χ2 h2 D2
  refine hook (c' := .call (.builtin "len") ⟨[.ref 182], []⟩) (by kernel_rfl) ?_
  refine lenlst_spec (vs := vs) (n := nS) (ac_handled hA) D2.gd (D2.at_ 3 (by kernel_rfl)) (by omega) ?_
  intro h3 tk3 t3 K3
  refine Exists.elim ((D2.same K3).ex) ?_
  intro Z3 D3
  refine eng 3 0 (by exact hA) D3 (by kernel_rfl) ?_
  intro χ4 h4 D4
  refine eng2 "special-get-raises" 1 0 1 0 (by exact hA) D4 (by kernel_rfl) ?_
  intro χ5 h5 D5
  refine hook2 (fun u v => .call (.builtin "int.__gt__") ⟨[.int (vs.length : Nat) u, .int 3 v], []⟩) (by kernel_rfl) ?_
  intro x5 y5
  by_cases h3' : 3 < vs.length
  case neg =>
    refine gtI_spec false (by rw [decide_eq_false_iff_not]; omega) ?_
    intro tk6
    refine eng 11 9444732965739290427392 (by exact hA) D5 (by kernel_rfl) ?_
    intro χ6 h6 D6
    refine hook (c' := .call (.builtin "len") ⟨[.ref 182], []⟩) (by kernel_rfl) ?_
    refine lenlst_spec (vs := vs) (n := nS) (ac_handled hA) D6.gd (D6.at_ 3 (by kernel_rfl)) (by omega) ?_
    intro h7 tk7 t7 K7
    refine Exists.elim ((D6.same K7).ex) ?_
    intro Z7 D7
    refine eng 3 0 (by exact hA) D7 (by kernel_rfl) ?_
    intro χ8 h8 D8
    refine eng2 "special-get-raises" 1 0 1 0 (by exact hA) D8 (by kernel_rfl) ?_
    intro χ9 h9 D9
    refine hook2 (fun u v => .call (.builtin "int.__gt__") ⟨[.int (vs.length : Nat) u, .int 8 v], []⟩) (by kernel_rfl) ?_
    intro x9 y9
    refine gtI_spec false (by rw [decide_eq_false_iff_not]; omega) ?_
    intro tk10
    refine eng 12 2427296372194997639839744 (by exact hA) D9 (by kernel_rfl) ?_
    intro χ10 h10 D10
    refine finQ (f := .done .next) (by kernel_rfl) ?_
    have eh : halfOf vs.length = 2 := by unfold halfOf; rw [if_neg (by omega), if_neg (by omega)]
    rw [eh] at k
    exact (k h10 _ (adrAt χ1.T 1) (eHi (objAt χ10.T 1)) (eKi (objAt χ10.T 1)) (eNd (objAt χ10.T 1)) (eTi (objAt χ10.T 1) 1) (Rep.kpF 2 [true, true] D D10 (by kernel_rfl)) D10.gd (D10.at_ 1 (by kernel_rfl)) (D10.at_ 0 (by kernel_rfl)) (D10.fresh_n (a := adrAt χ1.T 1) (o := objAt χ10.T 1) 1 2 (by kernel_rfl) rfl (by kernel_rfl)) (D10.fresh_n (a := adrAt χ1.T 1 + 1) (o := objAt χ10.T 0) 0 2 (by kernel_rfl) rfl (by kernel_rfl))).go
  case pos =>
    refine gtI_spec true (by rw [decide_eq_true_eq]; omega) ?_
    intro tk6
    refine eng 11 9444732965739290427392 (by exact hA) D5 (by kernel_rfl) ?_
    intro χ6 h6 D6
    refine hook (c' := .call (.builtin "len") ⟨[.ref 182], []⟩) (by kernel_rfl) ?_
    refine lenlst_spec (vs := vs) (n := nS) (ac_handled hA) D6.gd (D6.at_ 3 (by kernel_rfl)) (by omega) ?_
    intro h7 tk7 t7 K7
    refine Exists.elim ((D6.same K7).ex) ?_
    intro Z7 D7
    refine eng 3 0 (by exact hA) D7 (by kernel_rfl) ?_
    intro χ8 h8 D8
    refine eng2 "special-get-raises" 1 0 1 0 (by exact hA) D8 (by kernel_rfl) ?_
    intro χ9 h9 D9
    refine hook2 (fun u v => .call (.builtin "int.__gt__") ⟨[.int (vs.length : Nat) u, .int 8 v], []⟩) (by kernel_rfl) ?_
    intro x9 y9
    by_cases h8' : 8 < vs.length
    case pos =>
      refine gtI_spec true (by rw [decide_eq_true_eq]; omega) ?_
      intro tk10
      refine eng 12 2427296372194997639839744 (by exact hA) D9 (by kernel_rfl) ?_
      intro χ10 h10 D10
      refine finQ (f := .done .next) (by kernel_rfl) ?_
      have eh : halfOf vs.length = 4 := by unfold halfOf; rw [if_pos (by omega)]
      rw [eh] at k
      exact (k h10 _ (adrAt χ1.T 1) (eHi (objAt χ10.T 1)) (eKi (objAt χ10.T 1)) (eNd (objAt χ10.T 1)) (eTi (objAt χ10.T 1) 1) (Rep.kpF 2 [true, true] D D10 (by kernel_rfl)) D10.gd (D10.at_ 1 (by kernel_rfl)) (D10.at_ 0 (by kernel_rfl)) (D10.fresh_n (a := adrAt χ1.T 1) (o := objAt χ10.T 1) 1 2 (by kernel_rfl) rfl (by kernel_rfl)) (D10.fresh_n (a := adrAt χ1.T 1 + 1) (o := objAt χ10.T 0) 0 2 (by kernel_rfl) rfl (by kernel_rfl))).go
    case neg =>
      refine gtI_spec false (by rw [decide_eq_false_iff_not]; omega) ?_
      intro tk10
      refine eng 12 2427296372194997639839744 (by exact hA) D9 (by kernel_rfl) ?_
      intro χ10 h10 D10
      refine finQ (f := .done .next) (by kernel_rfl) ?_
      have eh : halfOf vs.length = 3 := by unfold halfOf; rw [if_neg (by omega), if_pos (by omega)]
      rw [eh] at k
      exact (k h10 _ (adrAt χ1.T 1) (eHi (objAt χ10.T 1)) (eKi (objAt χ10.T 1)) (eNd (objAt χ10.T 1)) (eTi (objAt χ10.T 1) 1) (Rep.kpF 2 [true, true] D D10 (by kernel_rfl)) D10.gd (D10.at_ 1 (by kernel_rfl)) (D10.at_ 0 (by kernel_rfl)) (D10.fresh_n (a := adrAt χ1.T 1) (o := objAt χ10.T 1) 1 2 (by kernel_rfl) rfl (by kernel_rfl)) (D10.fresh_n (a := adrAt χ1.T 1 + 1) (o := objAt χ10.T 0) 0 2 (by kernel_rfl) rfl (by kernel_rfl))).go
def lit8 (o : Obj) : List Value := [.int 5 (sqT o 0), .int 26 (sqT o 1), .int 21 (sqT o 2), .int 60 (sqT o 3), .int 3 (sqT o 4), .int 42 (sqT o 5), .int 9 (sqT o 6), .int 33 (sqT o 7)]
def cnsOf (sc : List Int) : List Nat := (sc.take 30).map (fun x : Int => (x % 1000000000).toNat) ++ [5, 26, 21, 60, 3, 42, 9, 33]
theorem lit8_nats (o : Obj) : NatsAre (lit8 o) [5, 26, 21, 60, 3, 42, 9, 33] := .cons 5 _ (.cons 26 _ (.cons 21 _ (.cons 60 _ (.cons 3 _ (.cons 42 _ (.cons 9 _ (.cons 33 _ .nil)))))))
theorem ints_take {vs : List Value} {ns : List Int} (x : IntsAre vs ns) : ∀ m, IntsAre (vs.take m) (ns.take m) := by
  induction x with
  | nil => intro m; simp only [List.take_nil]; exact .nil
  | cons n t _ ih =>
    intro m
    cases m with
    | zero => exact .nil
    | succ m => exact .cons n t (ih m)
theorem finK {prog : Program} {E : Value → Shared → Prop} {Qf : Flow → Shared → Prop} {cur : Option Code} {t : Sem Fin} {fr : Frs} {d : Drawn} (hc : cur = none) (e : t = .pure (.done .next)) (H : ∀ tk, Qf .next ⟨h, g, d, tk, os⟩) :
    Mean prog w A (onDone Qf) E R cur t fr ⟨h, g, d, tk, os⟩ := finQ (finAt hc e) (H tk)
abbrev law2 (half : Nat) (u : Tok) (cl : Addr) : List (Str × Value) := law1 half u ++ ([("cells", .ref cl)] : List (Str × Value))
theorem law_b {E : Value → Shared → Prop} {Q : Flow → Shared → Prop} {F : Addr} {H : Nat → Int} {K : Nat → Tok} {half en nS : Nat} {u : Tok} {vs : List Value} {sc : List Int}
    (hA : A.handled = none) (G : Gd w h) (aF : At w h F (frL H K (law1 half u) en)) (aS : At w h 182 (lstX vs.toArray nS)) (hI : IntsAre vs sc) (hl : vs.length ≤ 63)
    (k' : ∀ h' tk' H' K' en' cl cvs, Kp [F] h h' → Gd w h' → At w h' F (frL H' K' (law2 half u cl) en') → At w h' cl (lstX cvs.toArray 0) → NatsAre cvs (cnsOf sc) → h.get? cl = none → Run1 w A ((B181 w).drop 2) (E181 w F) Q E ⟨h', g, dr, tk', os⟩) :
    Run1 w A ((B181 w).drop 1) (E181 w F) Q E ⟨h, g, dr, tk, os⟩ := by
  refine ⟨?_⟩
  obtain ⟨Z, D⟩ : ∃ Z, Rep (KTw w) h [F, 182] h [(F, frL H K (law1 half u) en), (182, lstX vs.toArray nS)] Z := Rep.initC (T := [(F, frL H K (law1 half u) en), (182, lstX vs.toArray nS)]) G (oc aF (oc aS on)) (by kernel_rfl)
  have tl : (vs.take 30).length ≤ 30 := by rw [List.length_take]; omega
  rw [show (B181 w).drop 2 = ((B181 w).drop 1).drop 1 from (List.drop_drop (l := B181 w) (i := 1) (j := 1)).symm] at k'
  refine atCut 1 ?_
  refine top_execs (R := fun _ _ => True) ?_
  intro θ
  refine eng 9 55557249428172636160 (by exact hA) D (by kernel_rfl) ?_
  intro χ1 h1 D1
  refine hook (c' := .call (.builtin "list.__getitem__") ⟨[.ref 182, .ref (adrAt χ1.T 0)], []⟩) (by kernel_rfl) ?_
  refine getslice_lst (n := nS) (xs := vs.toArray) (vl := .none) (vu := .int 30 (fdT (objAt χ1.T 0) 1)) (vs := .none) (ac_handled hA) (D1.two 2 0 (by kernel_rfl) (by kernel_rfl) rfl) .none (.int _ _) .none (by simp) (by simp; omega) ?_
  intro h2 tk2 q2 K2 aq2 fq2
  rw [show (30 : Int) = ((30 : Nat) : Int) from rfl, slicePick_upto'] at aq2
  have hIu := ints_take hI 30
  generalize vs.take 30 = us at aq2 hIu tl
  refine Exists.elim ((D1.plus (o := lstX us.toArray 0) K2 aq2 fq2).ex) ?_
  intro Z2 D2
  refine eng 4 16842752 (by exact hA) D2 (by kernel_rfl) ?_
  intro χ3 h3 D3
  refine eng2 "special-get-raises" 1 0 1 0 (by exact hA) D3 (by kernel_rfl) ?_
  intro χ4 h4 D4
  refine eng 8 1099511628032 (by exact hA) D4 (by kernel_rfl) ?_
  intro χ5 h5 D5
  refine hook (c' := .compStart (mdE ⟨117, 13, 117, 14⟩ ⟨117, 17, 117, 19⟩ ⟨117, 23, 117, 24⟩ ⟨117, 17, 117, 24⟩ ⟨117, 13, 117, 24⟩ ⟨117, 29, 117, 30⟩ ⟨117, 12, 117, 46⟩ (lcI (biL (asV ((B181 w).drop 1))))) 0 (.ref (adrAt χ5.T 2)) (.ref (adrAt χ5.T 1)) (cEnvAt xS (adrAt χ5.T 0) [] (lawFd w) F)) (by kernel_rfl) ?_
  have p0 := D5.at_ (a := adrAt χ5.T 0) (o := nsO #[] 0) 0 (by kernel_rfl)
  have p1 := D5.at_ (a := adrAt χ5.T 1) (o := lstX #[] 0) 1 (by kernel_rfl)
  have p2 := D5.at_ (a := adrAt χ5.T 2) (o := liO (.ref q2) (.int 0 0)) 2 (by kernel_rfl)
  have p3 := D5.at_ (a := q2) (o := lstX us.toArray 0) 3 (by kernel_rfl)
  refine comp_md (so := lstX us.toArray 0) (src := q2) (ns0 := 0) (vs := us) (ns := sc.take 30) (ti := 0) (ac_handled hA) rfl hIu (by omega) D5.gd p0 p1 p2 p3 (nin3 (ne_of_cls p3.1 p0.1 (by kernel_rfl)) (D5.apart (a := q2) (o := lstX us.toArray 0) (b := adrAt χ5.T 1) (o' := lstX #[] 0) 3 1 (by kernel_rfl)) (ne_of_cls p3.1 p2.1 (by kernel_rfl))) ?_
  intro h6 tk6 es6 en6 na6 v6 zs K6 G6 o6 c0 hz c1 c2
  refine Exists.elim (D5.turnL [(0, nsO es6 en6), (1, lstX zs.toArray na6), (2, liO .none v6)] K6 (by kernel_rfl) (by kernel_rfl) (all3 c0.1 c1.1 c2.1)) ?_
  intro Z6 D6
  have zl : zs.length ≤ 30 := by
    rw [hz.length, List.length_map, ← ints_len hIu]; exact tl
  rcases o6 with rfl | ⟨x6, y6, z6, rfl⟩
  · skip
    refine eng 16 15597410669695677349028216870797313 (by exact hA) D6 (by kernel_rfl) ?_
    intro χ7 h7 D7
    refine hook (c' := .call (.builtin "list.__add__") ⟨[.ref (adrAt χ5.T 1), .ref (adrAt χ7.T 0)], []⟩) (by kernel_rfl) ?_
    refine listadd_spec (vs := zs) (vs2 := lit8 (objAt χ7.T 0)) (n := na6) (n2 := 0) D7.gd (D7.at_ (a := adrAt χ5.T 1) (o := lstX zs.toArray na6) 2 (by kernel_rfl)).1 (D7.at_ (a := adrAt χ7.T 0) (o := lstO (lit8 (objAt χ7.T 0)) 0) 0 (by kernel_rfl)).1 (by simp only [lit8, List.length_cons, List.length_nil]; omega) ?_
    intro h8 q8 K8 aq8 fq8
    refine Exists.elim ((D7.plus K8 aq8 fq8).ex) ?_
    intro Z8 D8
    refine eng 8 2260595906707456 (by exact hA) D8 (by kernel_rfl) ?_
    intro χ9 h9 D9
    refine finK (by kernel_rfl) (by kernel_rfl) (fun t9 => ?_)
    dsimp only
    have K9 : Kp [F] h h9 := Rep.kpF 7 [false, true] D D9 (by kernel_rfl)
    have q1 : At w h9 q8 (lstX (zs ++ lit8 (objAt χ7.T 0)).toArray 0) := D9.at_ 0 (by kernel_rfl)
    have q3 : NatsAre (zs ++ lit8 (objAt χ7.T 0)) (cnsOf sc) := by unfold cnsOf; exact hz.app (lit8_nats _)
    have q4 : At w h9 F (frL (eHi (objAt χ9.T 7)) (eKi (objAt χ9.T 7)) (law2 half u q8) (eNd (objAt χ9.T 7))) := D9.at_ 7 (by kernel_rfl)
    with_reducible exact (k' h9 t9 (eHi (objAt χ9.T 7)) (eKi (objAt χ9.T 7)) (eNd (objAt χ9.T 7)) q8 (zs ++ lit8 (objAt χ7.T 0)) K9 D9.gd q4 q1 q3 (D7.keep.fresh fq8)).go
  · skip
    refine eng 20 66990368728624392486644168841269912501551105 (by exact hA) D6 (by kernel_rfl) ?_
    intro χ7 h7 D7
    refine hook (c' := .call (.builtin "list.__add__") ⟨[.ref (adrAt χ5.T 1), .ref (adrAt χ7.T 0)], []⟩) (by kernel_rfl) ?_
    refine listadd_spec (vs := zs) (vs2 := lit8 (objAt χ7.T 0)) (n := na6) (n2 := 0) D7.gd (D7.at_ (a := adrAt χ5.T 1) (o := lstX zs.toArray na6) 2 (by kernel_rfl)).1 (D7.at_ (a := adrAt χ7.T 0) (o := lstO (lit8 (objAt χ7.T 0)) 0) 0 (by kernel_rfl)).1 (by simp only [lit8, List.length_cons, List.length_nil]; omega) ?_
    intro h8 q8 K8 aq8 fq8
    refine Exists.elim ((D7.plus K8 aq8 fq8).ex) ?_
    intro Z8 D8
    refine eng 8 2260595906707456 (by exact hA) D8 (by kernel_rfl) ?_
    intro χ9 h9 D9
    refine finK (by kernel_rfl) (by kernel_rfl) (fun t9 => ?_)
    dsimp only
    have K9 : Kp [F] h h9 := Rep.kpF 7 [false, true] D D9 (by kernel_rfl)
    have q1 : At w h9 q8 (lstX (zs ++ lit8 (objAt χ7.T 0)).toArray 0) := D9.at_ 0 (by kernel_rfl)
    have q3 : NatsAre (zs ++ lit8 (objAt χ7.T 0)) (cnsOf sc) := by unfold cnsOf; exact hz.app (lit8_nats _)
    have q4 : At w h9 F (frL (eHi (objAt χ9.T 7)) (eKi (objAt χ9.T 7)) (law2 half u q8) (eNd (objAt χ9.T 7))) := D9.at_ 7 (by kernel_rfl)
    with_reducible exact (k' h9 t9 (eHi (objAt χ9.T 7)) (eKi (objAt χ9.T 7)) (eNd (objAt χ9.T 7)) q8 (zs ++ lit8 (objAt χ7.T 0)) K9 D9.gd q4 q1 q3 (D7.keep.fresh fq8)).go
theorem law_c {E : Value → Shared → Prop} {Q : Flow → Shared → Prop} {F cl : Addr} {H : Nat → Int} {K : Nat → Tok} {half en : Nat} {u : Tok}
    (hA : A.handled = none) (G : Gd w h) (aF : At w h F (frL H K (law2 half u cl) en)) (aC : At w h (F + 1) cell0)
    (k' : ∀ h' tk' Tb tqs, Kp [F + 1] h h' → Gd w h' → At w h' (F + 1) (cellO (.ref Tb)) → At w h' Tb (lstO (tqs.map .ref) 0) → Row w h' tqs pcs → h.get? Tb = none → Run1 w A ((B181 w).drop 3) (E181 w F) Q E ⟨h', g, dr, tk', os⟩) :
    Run1 w A ((B181 w).drop 2) (E181 w F) Q E ⟨h, g, dr, tk, os⟩ := by
  refine ⟨?_⟩
  obtain ⟨Z, D⟩ : ∃ Z, Rep (KTw w) h [F, F + 1] h [(F, frL H K (law2 half u cl) en), (F + 1, cell0)] Z := Rep.initC (T := [(F, frL H K (law2 half u cl) en), (F + 1, cell0)]) G (oc aF (oc aC on)) (by kernel_rfl)
  rw [show (B181 w).drop 3 = ((B181 w).drop 2).drop 1 from (List.drop_drop (l := B181 w) (i := 1) (j := 2)).symm] at k'
  refine atCut 1 ?_
  refine top_execs (R := fun _ _ => True) ?_
  intro θ
  refine eng 40 359918794068599510367555997570832003830781321805850111284273065645302245901934554273779023872 (by exact hA) D (by kernel_rfl) ?_
  intro χ1 h1 D1
  refine finK (by kernel_rfl) (by kernel_rfl) (fun t2 => ?_)
  dsimp only
  have K1 : Kp [F + 1] h h1 := Rep.kpF 9 [true, false] D D1 (by kernel_rfl)
  have q1 : At w h1 (F + 1) (cellO (.ref (adrAt χ1.T 0))) := D1.at_ 10 (by kernel_rfl)
  have c0 : Tup w h1 (adrAt χ1.T 8) (Str.ofString "", Str.ofString "") := ⟨sqT (objAt χ1.T 8) 0, sqT (objAt χ1.T 8) 1, D1.at_ 8 (by kernel_rfl)⟩
  have c1 : Tup w h1 (adrAt χ1.T 7) (Str.ofString "", Str.ofString " ") := ⟨sqT (objAt χ1.T 7) 0, sqT (objAt χ1.T 7) 1, D1.at_ 7 (by kernel_rfl)⟩
  have c2 : Tup w h1 (adrAt χ1.T 6) (Str.ofString "", Str.ofString "a") := ⟨sqT (objAt χ1.T 6) 0, sqT (objAt χ1.T 6) 1, D1.at_ 6 (by kernel_rfl)⟩
  have c3 : Tup w h1 (adrAt χ1.T 5) (Str.ofString "", Str.ofString "ab") := ⟨sqT (objAt χ1.T 5) 0, sqT (objAt χ1.T 5) 1, D1.at_ 5 (by kernel_rfl)⟩
  have c4 : Tup w h1 (adrAt χ1.T 4) (Str.ofString "", Str.ofString "b") := ⟨sqT (objAt χ1.T 4) 0, sqT (objAt χ1.T 4) 1, D1.at_ 4 (by kernel_rfl)⟩
  have c5 : Tup w h1 (adrAt χ1.T 3) (Str.ofString "\t", Str.ofString "") := ⟨sqT (objAt χ1.T 3) 0, sqT (objAt χ1.T 3) 1, D1.at_ 3 (by kernel_rfl)⟩
  have c6 : Tup w h1 (adrAt χ1.T 2) (Str.ofString " ", Str.ofString "") := ⟨sqT (objAt χ1.T 2) 0, sqT (objAt χ1.T 2) 1, D1.at_ 2 (by kernel_rfl)⟩
  have c7 : Tup w h1 (adrAt χ1.T 1) (Str.ofString " ", Str.ofString "a") := ⟨sqT (objAt χ1.T 1) 0, sqT (objAt χ1.T 1) 1, D1.at_ 1 (by kernel_rfl)⟩
  have q2 : At w h1 (adrAt χ1.T 0) (lstO ([adrAt χ1.T 8, adrAt χ1.T 7, adrAt χ1.T 6, adrAt χ1.T 5, adrAt χ1.T 4, adrAt χ1.T 3, adrAt χ1.T 2, adrAt χ1.T 1].map .ref) 0) := D1.at_ 0 (by kernel_rfl)
  have q3 : Row w h1 [adrAt χ1.T 8, adrAt χ1.T 7, adrAt χ1.T 6, adrAt χ1.T 5, adrAt χ1.T 4, adrAt χ1.T 3, adrAt χ1.T 2, adrAt χ1.T 1] pcs := .cons c0 (.cons c1 (.cons c2 (.cons c3 (.cons c4 (.cons c5 (.cons c6 (.cons c7 .nil)))))))
  have q4 : h.get? (adrAt χ1.T 0) = none := D1.fresh_n (o := objAt χ1.T 0) 0 9 (by kernel_rfl) rfl (by kernel_rfl)
  with_reducible exact (k' h1 t2 (adrAt χ1.T 0) _ K1 D1.gd q1 q2 q3 q4).go
abbrev law3 (half : Nat) (u : Tok) (cl Pi : Addr) : List (Str × Value) := law2 half u cl ++ ([("pieces", .ref Pi)] : List (Str × Value))
theorem law_d {E : Value → Shared → Prop} {Q : Flow → Shared → Prop} {F cl Tb : Addr} {H : Nat → Int} {K : Nat → Tok} {half en nc nT : Nat} {u : Tok} {cvs : List Value} {cns : List Nat} {tqs : List Addr}
    (hA : A.handled = none) (G : Gd w h) (aF : At w h F (frL H K (law2 half u cl) en)) (aC : At w h (F + 1) (cellO (.ref Tb))) (ac : At w h cl (lstX cvs.toArray nc)) (hI : NatsAre cvs cns) (hl : cvs.length ≤ 100) (h4 : half ≤ 4) (aT : At w h Tb (lstO (tqs.map .ref) nT)) (rT : Row w h tqs pcs)
    (k' : ∀ h' tk' H' K' en' Pi hs nP, Kp [F] h h' → Gd w h' → At w h' F (frL H' K' (law3 half u cl Pi) en') → At w h' Pi (lstO (hs.map .ref) nP) → Row w h' hs ((cns.take (2 * half)).map (fun n => pc (n % 8))) → h.get? Pi = none → Run1 w A ((B181 w).drop 4) (E181 w F) Q E ⟨h', g, dr, tk', os⟩) :
    Run1 w A ((B181 w).drop 3) (E181 w F) Q E ⟨h, g, dr, tk, os⟩ := by
  refine ⟨?_⟩
  obtain ⟨Z, D⟩ : ∃ Z, Rep (KTw w) h [F, F + 1, cl] h [(F, frL H K (law2 half u cl) en), (F + 1, cellO (.ref Tb)), (cl, lstX cvs.toArray nc)] Z := Rep.initC (T := [(F, frL H K (law2 half u cl) en), (F + 1, cellO (.ref Tb)), (cl, lstX cvs.toArray nc)]) G (oc aF (oc aC (oc ac on))) (by kernel_rfl)
  rw [show (B181 w).drop 4 = ((B181 w).drop 3).drop 1 from (List.drop_drop (l := B181 w) (i := 1) (j := 3)).symm] at k'
  refine atCut 1 ?_
  refine top_execs (R := fun _ _ => True) ?_
  intro θ
  refine eng 7 1099511693312 (by exact hA) D (by kernel_rfl) ?_
  intro χ1 h1 D1
  refine hook2 (fun a b => .call (.builtin "int.__mul__") ⟨[.int 2 a, .int (half : Nat) b], []⟩) (by kernel_rfl) ?_
  intro a1 b1
  refine mul_spec (by omega) (by omega) ?_
  intro tk2 v2
  refine eng 5 17247240192 (by exact hA) D1 (by kernel_rfl) ?_
  intro χ2 h2 D2
  refine hook (c' := .call (.builtin "list.__getitem__") ⟨[.ref cl, .ref (adrAt χ2.T 0)], []⟩) (by kernel_rfl) ?_
  refine getslice_lst (n := nc) (xs := cvs.toArray) (vl := .none) (vu := .int (2 * (half : Nat)) v2) (vs := .none) (ac_handled hA) (D2.two 3 0 (by kernel_rfl) (by kernel_rfl) rfl) .none (.int _ _) .none (by simp) (by simp; omega) ?_
  intro h3 tk3 q3 K3 aq3 fq3
  rw [show (2 * ((half : Nat) : Int)) = ((2 * half : Nat) : Int) from by omega, slicePick_upto'] at aq3
  have hIu := hI.take (2 * half)
  have hul : (cvs.take (2 * half)).length ≤ 100 := by rw [List.length_take]; omega
  generalize cvs.take (2 * half) = us at aq3 hIu hul
  refine Exists.elim ((D2.plus (o := lstX us.toArray 0) K3 aq3 fq3).ex) ?_
  intro Z3 D3
  refine eng 4 16842752 (by exact hA) D3 (by kernel_rfl) ?_
  intro χ4 h4 D4
  refine eng2 "special-get-raises" 1 0 1 0 (by exact hA) D4 (by kernel_rfl) ?_
  intro χ5 h5 D5
  refine eng 9 1099511628032 (by exact hA) D5 (by kernel_rfl) ?_
  intro χ6 h6 D6
  refine hook (c' := .compStart (tmE ⟨119, 14, 119, 19⟩ ⟨119, 20, 119, 21⟩ ⟨119, 24, 119, 25⟩ ⟨119, 20, 119, 25⟩ ⟨119, 14, 119, 26⟩ ⟨119, 31, 119, 32⟩ ⟨119, 13, 119, 53⟩ (lcI (asV ((B181 w).drop 3)))) 0 (.ref (adrAt χ6.T 2)) (.ref (adrAt χ6.T 1)) (cEnvAt tmS (adrAt χ6.T 0) [("table", F + 1)] (lawFd w) F)) (by kernel_rfl) ?_
  have K6 : Kp [] h h6 := Rep.kpF 5 [true, true, true] D D6 (by kernel_rfl)
  have p0 := D6.at_ (a := adrAt χ6.T 0) (o := nsO #[] 0) 0 (by kernel_rfl)
  have p1 := D6.at_ (a := adrAt χ6.T 1) (o := lstX #[] 0) 1 (by kernel_rfl)
  have p2 := D6.at_ (a := adrAt χ6.T 2) (o := liO (.ref q3) (.int 0 0)) 2 (by kernel_rfl)
  have p3 := D6.at_ (a := q3) (o := lstX us.toArray 0) 3 (by kernel_rfl)
  have fA : h.get? (adrAt χ6.T 1) = none := D6.fresh_n (o := lstX #[] 0) 1 5 (by kernel_rfl) rfl (by kernel_rfl)
  refine comp_tm (so := lstX us.toArray 0) (src := q3) (ns0 := 0) (vs := us) (C := F + 1) (Tb := Tb) (tqs := tqs) (nT := nT) (ns := cns.take (2 * half)) (ti := 0) (ac_handled hA) rfl hIu (by omega) D6.gd p0 p1 p2 p3 (nin3 (ne_of_cls p3.1 p0.1 (by kernel_rfl)) (D6.apart (a := q3) (o := lstX us.toArray 0) (b := adrAt χ6.T 1) (o' := lstX #[] 0) 3 1 (by kernel_rfl)) (ne_of_cls p3.1 p2.1 (by kernel_rfl))) (aC.kp K6 (nin0 _)) (aT.kp K6 (nin0 _)) (rT.kp0 K6) (Ne.symm (old_ne aT.1 fA)) ?_
  intro h7 tk7 es7 en7 na7 v7 zs K7 G7 o7 c0 hz c1 c2
  obtain ⟨hs, rfl, rz⟩ := hz
  refine Exists.elim (D6.turnL [(0, nsO es7 en7), (1, lstX (hs.map Value.ref).toArray na7), (2, liO .none v7)] K7 (by kernel_rfl) (by kernel_rfl) (all3 c0.1 c1.1 c2.1)) ?_
  intro Z7 D7
  have K07 : Kp [] h h7 := Rep.kpF 5 [true, true, true] D D7 (by kernel_rfl)
  have fL : h.get? (adrAt χ6.T 0) = none := D6.fresh_n (o := nsO #[] 0) 0 5 (by kernel_rfl) rfl (by kernel_rfl)
  rcases o7 with rfl | ⟨x7, y7, z7, rfl⟩
  · skip
    have E7 := D7.to _ rfl
    clear D7
    refine eng 9 18448439520639582208 (by exact hA) E7 (by kernel_rfl) ?_
    intro χ8 h8 D8
    refine finK (by kernel_rfl) (by kernel_rfl) (fun t9 => ?_)
    dsimp only
    have K8 : Kp [adrAt χ6.T 0, F] h7 h8 := Rep.kpF 0 [false, true, true, true, true, false, true, true] E7 D8 (by kernel_rfl)
    have K9 : Kp [F] h h8 := (K07.weak (ks' := [F]) (by simp)).trans K8 fun x o e q => by
      rcases List.mem_cons.mp q with rfl | q
      · rw [fL] at e; cases e
      · exact q
    have e1 : At w h8 F (frL (eHi (objAt χ8.T 5)) (eKi (objAt χ8.T 5)) (law3 half u cl (adrAt χ6.T 1)) (eNd (objAt χ8.T 5))) := D8.at_ 5 (by kernel_rfl)
    have e2 : At w h8 (adrAt χ6.T 1) (lstO (hs.map .ref) na7) := D8.at_ 1 (by kernel_rfl)
    have e3 := rz.kpc K8 (kind2 (C := fun o => o.cls ≠ .type "tuple") c0.1 (by simp) (K07.2 _ _ aF.1 (nin0 _)) (by simp))
    with_reducible exact (k' h8 t9 _ _ _ (adrAt χ6.T 1) hs na7 K9 D8.gd e1 e2 e3 fA).go
  · skip
    have E7 := D7.to _ rfl
    clear D7
    refine eng 13 310693954089399218539069440 (by exact hA) E7 (by kernel_rfl) ?_
    intro χ8 h8 D8
    refine finK (by kernel_rfl) (by kernel_rfl) (fun t9 => ?_)
    dsimp only
    have K8 : Kp [adrAt χ6.T 0, F] h7 h8 := Rep.kpF 0 [false, true, true, true, true, false, true, true] E7 D8 (by kernel_rfl)
    have K9 : Kp [F] h h8 := (K07.weak (ks' := [F]) (by simp)).trans K8 fun x o e q => by
      rcases List.mem_cons.mp q with rfl | q
      · rw [fL] at e; cases e
      · exact q
    have e1 : At w h8 F (frL (eHi (objAt χ8.T 5)) (eKi (objAt χ8.T 5)) (law3 half u cl (adrAt χ6.T 1)) (eNd (objAt χ8.T 5))) := D8.at_ 5 (by kernel_rfl)
    have e2 : At w h8 (adrAt χ6.T 1) (lstO (hs.map .ref) na7) := D8.at_ 1 (by kernel_rfl)
    have e3 := rz.kpc K8 (kind2 (C := fun o => o.cls ≠ .type "tuple") c0.1 (by simp) (K07.2 _ _ aF.1 (nin0 _)) (by simp))
    with_reducible exact (k' h8 t9 _ _ _ (adrAt χ6.T 1) hs na7 K9 D8.gd e1 e2 e3 fA).go
theorem hookT {prog : Program} {Q : Fin → Shared → Prop} {E : Value → Shared → Prop} {cur : Option Code} {t : Sem Fin} {fr : Frs} {s : Shared} {f : Value} {pos : List Value} (hc : cur = none) (e : CallAt t (.call f ⟨pos, []⟩))
    (h : wpAny (model prog w) A (call f pos) (fun v s' => Mean prog w A Q E R none (kC t (.ok (.ret v))) fr s') (fun e s' => Mean prog w A Q E R none (kC t (.error e)) fr s') s) : Mean prog w A Q E R cur t fr s := by
  refine ⟨?_⟩
  replace e : t = .call (.call f ⟨pos, []⟩) none (gC t) (lC t) (kC t) := e
  rw [hc, e]
  intro Γ p hΓ
  have x := h Γ p hΓ
  rw [show call f pos = runValue (.call f ⟨pos, []⟩) from rfl, Sem.wp_runValue] at x
  refine wpCode_mono (fun r s' q => ?_) x
  cases r with
  | ok fl => cases fl with
    | ret v => exact q.holds Γ p hΓ
    | _ => exact q.elim
  | error e => exact q.holds Γ p hΓ
theorem sum_top {Q : Value → Shared → Prop} {E : Value → Shared → Prop} {l : Addr} {vs : List Value} {ns : List Int} {n : Nat}
    (hA : A.handled = none) (al : h.get? l = some (lstX vs.toArray n)) (hI : IntsAre vs ns) (k : ∀ h' tk' t, Kp [] h h' → Q (.int ns.sum t) ⟨h', g, dr, tk', os⟩) :
    wpAny (model pw w) A (call (.builtin "sum") [.ref l]) Q E ⟨h, g, dr, tk, os⟩ := by
  obtain ⟨xs, hx⟩ := hI.allInts.items
  have hn : numsOf vs.toArray.toList = ns := by rw [show vs.toArray.toList = vs from rfl, hI.numsOf]
  have hl : h.IsList l vs.toArray := ⟨_, al, rfl, n, rfl⟩
  rw [hx] at hl hn
  rw [nums_intItems] at hn
  refine sum_intListG hA hl fun h' tk' t' hk => ?_
  have := k h' tk' t' ⟨fun b o e => ⟨o, hk b o e⟩, fun b o e _ => hk b o e⟩
  rw [preSum_eq, List.take_of_length_le (by simp), hn]
  exact this
theorem mod4_spec {prog : Program} {x : Int} {t u : Tok} (k : ∀ tk' v (ld : Nat), ld < 4 → R (.ok (.ret (.int (ld : Nat) v))) ⟨h, g, dr, tk', os⟩) :
    codeAny (model prog w) A (.call (.builtin "int.__mod__") ⟨[.int x t, .int 4 u], []⟩) R ⟨h, g, dr, tk, os⟩ :=
  modI_spec (by decide) fun tk' v => k tk' v _ (by have := Int.emod_lt_of_pos x (show (0 : Int) < 4 by decide); have := Int.emod_nonneg x (show (4 : Int) ≠ 0 by decide); omega)
theorem Gd.kp63 {h h' : Heap} (G : Gd w h) (K : Kp [63, 70] h h') : Gd w h' := fun a o e => K.2 a o (G a o e) fun q => by
  rcases List.mem_cons.mp q with rfl | q
  · exact absurd e (by rw [show slook (KTw w) 63 = none from by kernel_rfl]; simp)
  · rw [List.mem_singleton.mp q] at e
    exact absurd e (by rw [show slook (KTw w) 70 = none from by kernel_rfl]; simp)
theorem finR {prog : Program} {E : Value → Shared → Prop} {Qf : Flow → Shared → Prop} {cur : Option Code} {t : Sem Fin} {fr : Frs} {d : Drawn} (v : Value) (hc : cur = none) (e : t = .pure (.done (.ret v))) (H : ∀ tk, Qf (.ret v) ⟨h, g, d, tk, os⟩) :
    Mean prog w A (onDone Qf) E R cur t fr ⟨h, g, d, tk, os⟩ := finQ (finAt hc e) (H tk)
theorem law_e {E : Value → Shared → Prop} {Q : Flow → Shared → Prop} {F cl Tb Pi : Addr} {H : Nat → Int} {K : Nat → Tok} {half en nc nT nP : Nat} {u : Tok} {cvs : List Value} {cns pcsR : List Nat} {tqs hs : List Addr} {ps1 ps2 : Array Value}
    (hA : A.handled = none) (hd : A.depth + 600 < recursionLimit) (hu : A.units + 800 < cLine) (G : Gd w h) (aF : At w h F (frL H K (law3 half u cl Pi) en)) (aC : At w h (F + 1) (cellO (.ref Tb))) (ac : At w h cl (lstX cvs.toArray nc)) (hI : NatsAre cvs cns) (hl : cvs.length ≤ 100) (hl0 : 0 < cvs.length) (hb : ∀ x ∈ cns, x < 2 ^ 60) (hh2 : 2 ≤ half) (hh4 : half ≤ 4) (aT : At w h Tb (lstO (tqs.map .ref) nT)) (rT : Row w h tqs pcs)
    (ah : At w h Pi (lstO (hs.map .ref) nP)) (rh : Row w h hs (pcsR.map pc)) (hp : pcsR.length = 2 * half) (hh8 : ∀ x ∈ pcsR, x < 8) (t1 : TbA w h 63 ps1) (t2 : TbA w h 70 ps2) (zZ : ∃ o, h.get? 182 = some o)
    (k' : ∀ h' g' tk', (AllBare g → AllBare g') → Kp [63, 70] h h' → (∃ p, TbA w h' 63 p) → (∃ p, TbA w h' 70 p) → Q (.ret (.bool true)) ⟨h', g', dr, tk', os⟩) :
    Run1 w A ((B181 w).drop 4) (E181 w F) Q E ⟨h, g, dr, tk, os⟩ := by
  refine ⟨?_⟩
  obtain ⟨Z, D⟩ : ∃ Z, Rep (KTw w) h [F, F + 1, cl] h [(F, frL H K (law3 half u cl Pi) en), (F + 1, cellO (.ref Tb)), (cl, lstX cvs.toArray nc)] Z := Rep.initC (T := [(F, frL H K (law3 half u cl Pi) en), (F + 1, cellO (.ref Tb)), (cl, lstX cvs.toArray nc)]) G (oc aF (oc aC (oc ac on))) (by kernel_rfl)
  refine top_execs (R := fun _ _ => True) ?_
  intro θ
  refine eng 12 932081825369904646679691264 (by exact hA) D (by kernel_rfl) ?_
  intro χ1 h1 D1
  refine eng2 "special-get-raises" 1 0 1 0 (by exact hA) D1 (by kernel_rfl) ?_
  intro χ2 h2 D2
  refine eng 8 1099511628544 (by exact hA) D2 (by kernel_rfl) ?_
  intro χ3 h3 D3
  refine hook (c' := .compStart (fdE ⟨120, 35, 120, 36⟩ ⟨120, 40, 120, 41⟩ ⟨120, 35, 120, 41⟩ ⟨120, 46, 120, 47⟩ ⟨120, 34, 120, 57⟩ (.Name "cells" ⟨120, 51, 120, 56⟩)) 0 (.ref (adrAt χ3.T 2)) (.ref (adrAt χ3.T 1)) (cEnvAt xS (adrAt χ3.T 0) [] (lawFd w) F)) (by kernel_rfl) ?_
  have K3 : Kp [] h h3 := Rep.kpF 3 [true, true, true] D D3 (by kernel_rfl)
  have p0 := D3.at_ (a := adrAt χ3.T 0) (o := nsO #[] 0) 0 (by kernel_rfl)
  have p1 := D3.at_ (a := adrAt χ3.T 1) (o := lstX #[] 0) 1 (by kernel_rfl)
  have p2 := D3.at_ (a := adrAt χ3.T 2) (o := liO (.ref cl) (.int 0 0)) 2 (by kernel_rfl)
  have p3 := D3.at_ (a := cl) (o := lstX cvs.toArray nc) 5 (by kernel_rfl)
  have fA : h.get? (adrAt χ3.T 1) = none := D3.fresh_n (o := lstX #[] 0) 1 3 (by kernel_rfl) rfl (by kernel_rfl)
  refine comp_fd (so := lstX cvs.toArray nc) (src := cl) (ns0 := nc) (vs := cvs) (ns := cns) (ti := 0) (ac_handled hA) rfl hI (by omega) D3.gd p0 p1 p2 p3 (nin3 (ne_of_cls p3.1 p0.1 (by kernel_rfl)) (D3.apart (a := cl) (o := lstX cvs.toArray nc) (b := adrAt χ3.T 1) (o' := lstX #[] 0) 5 1 (by kernel_rfl)) (ne_of_cls p3.1 p2.1 (by kernel_rfl))) ?_
  intro h4 tk4 es4 en4 na4 v4 zs K4 G4 o4 c0 hz c1 c2
  refine Exists.elim (D3.turnL [(0, nsO es4 en4), (1, lstX zs.toArray na4), (2, liO .none v4)] K4 (by kernel_rfl) (by kernel_rfl) (all3 c0.1 c1.1 c2.1)) ?_
  intro Z4 D4
  have hzl : zs.length = cvs.length := by rw [hz.length, List.length_map, hI.length]
  have hb8 : ∀ x ∈ cns.map (· / 8), x < 2 ^ 60 := by
    intro x hx
    obtain ⟨y, hy, rfl⟩ := List.mem_map.mp hx
    exact Nat.lt_of_le_of_lt (Nat.div_le_self y 8) (hb y hy)
  rcases o4 with rfl | ⟨x4, y4, z4, rfl⟩
  · skip
    refine eng 7 4398046511105 (by exact hA) D4 (by kernel_rfl) ?_
    intro χ5 h5 D5
    refine hookT (f := .builtin "sum") (pos := [.ref cl]) (by kernel_rfl) (by kernel_rfl) ?_
    refine sum_top hA (D5.at (j := 5) (x := (cl, lstX cvs.toArray nc)) (by kernel_rfl)) hI.ints ?_
    intro h6 tk6 t6 K6
    refine Exists.elim ((D5.same K6).ex) ?_
    intro Z6 D6
    refine eng 3 0 (by exact hA) D6 (by kernel_rfl) ?_
    intro χ7 h7 D7
    refine hook2 (fun a b => .call (.builtin "int.__mod__") ⟨[.int (cns.map (fun n : Nat => (n : Int))).sum a, .int 4 b], []⟩) (by kernel_rfl) ?_
    intro a7 b7
    refine mod4_spec ?_
    intro tk8 u8 ld hld
    refine eng 4 1280 (by exact hA) D7 (by kernel_rfl) ?_
    intro χ8 h8 D8
    have K8 : Kp [] h h8 := Rep.kpF 3 [true, true, true] D D8 (by kernel_rfl)
    have aDr : At w h8 (adrAt χ3.T 1) (lstX zs.toArray na4) := D8.at_ 1 (by kernel_rfl)
    refine hook (c' := .call (.ref 176) ⟨[.int half u, .ref Pi, .ref (adrAt χ3.T 1), .int (ld : Nat) u8, .ref Tb], []⟩) (by kernel_rfl) ?_
    refine run_spec (hs := hs) (tqs := tqs) (dvs := zs) (dns := cns.map (· / 8)) (pcsR := pcsR) (kh := nP) (nD := na4) (nT := nT) (ps1 := ps1) (ps2 := ps2) (ac_handled hA) (depL (b := A.depth) 0 (by kernel_rfl) hd rfl) (depL (b := A.units) 0 (by kernel_rfl) hu rfl) D8.gd hh2 hh4 hld hp hh8 (ah.kp K8 (nin0 _)) (rh.kp0 K8) aDr hz (by omega) (by omega) hb8 (aT.kp K8 (nin0 _)) (rT.kp0 K8) (t1.kp K8 (nin0 _)) (t2.kp K8 (nin0 _)) (by obtain ⟨o, e⟩ := zZ; exact K8.1 _ _ e) ?_
    intro h9 g9 tk9 gs9 K9 T1 T2
    have D9 : Rep (KTw w) h9 [] h9 [] h9.objs.size := Rep.init (T := []) (D8.gd.kp63 K9) (by simp) (by simp)
    clear D8
    refine eng 1 0 (by exact hA) D9 (by kernel_rfl) ?_
    intro χ10 h10 D10
    refine finR (.bool true) (by kernel_rfl) (by kernel_rfl) (fun t10 => ?_)
    have K10 : Kp [] h9 h10 := D9.ro D10 (by kernel_rfl) rfl
    exact k' h10 g9 t10 gs9 (trans_old (trans_old (K8.weak (by simp)) K9 (fun a ha => .inr ha)) K10 (fun _ q => absurd q (nin0 _))) (T1.imp fun _ x => x.kp K10 (nin0 _)) (T2.imp fun _ x => x.kp K10 (nin0 _))
  · skip
    refine eng 11 18889465931478597697537 (by exact hA) D4 (by kernel_rfl) ?_
    intro χ5 h5 D5
    refine hookT (f := .builtin "sum") (pos := [.ref cl]) (by kernel_rfl) (by kernel_rfl) ?_
    refine sum_top hA (D5.at (j := 5) (x := (cl, lstX cvs.toArray nc)) (by kernel_rfl)) hI.ints ?_
    intro h6 tk6 t6 K6
    refine Exists.elim ((D5.same K6).ex) ?_
    intro Z6 D6
    refine eng 3 0 (by exact hA) D6 (by kernel_rfl) ?_
    intro χ7 h7 D7
    refine hook2 (fun a b => .call (.builtin "int.__mod__") ⟨[.int (cns.map (fun n : Nat => (n : Int))).sum a, .int 4 b], []⟩) (by kernel_rfl) ?_
    intro a7 b7
    refine mod4_spec ?_
    intro tk8 u8 ld hld
    refine eng 4 1280 (by exact hA) D7 (by kernel_rfl) ?_
    intro χ8 h8 D8
    have K8 : Kp [] h h8 := Rep.kpF 3 [true, true, true] D D8 (by kernel_rfl)
    have aDr : At w h8 (adrAt χ3.T 1) (lstX zs.toArray na4) := D8.at_ 1 (by kernel_rfl)
    refine hook (c' := .call (.ref 176) ⟨[.int half u, .ref Pi, .ref (adrAt χ3.T 1), .int (ld : Nat) u8, .ref Tb], []⟩) (by kernel_rfl) ?_
    refine run_spec (hs := hs) (tqs := tqs) (dvs := zs) (dns := cns.map (· / 8)) (pcsR := pcsR) (kh := nP) (nD := na4) (nT := nT) (ps1 := ps1) (ps2 := ps2) (ac_handled hA) (depL (b := A.depth) 0 (by kernel_rfl) hd rfl) (depL (b := A.units) 0 (by kernel_rfl) hu rfl) D8.gd hh2 hh4 hld hp hh8 (ah.kp K8 (nin0 _)) (rh.kp0 K8) aDr hz (by omega) (by omega) hb8 (aT.kp K8 (nin0 _)) (rT.kp0 K8) (t1.kp K8 (nin0 _)) (t2.kp K8 (nin0 _)) (by obtain ⟨o, e⟩ := zZ; exact K8.1 _ _ e) ?_
    intro h9 g9 tk9 gs9 K9 T1 T2
    have D9 : Rep (KTw w) h9 [] h9 [] h9.objs.size := Rep.init (T := []) (D8.gd.kp63 K9) (by simp) (by simp)
    clear D8
    refine eng 1 0 (by exact hA) D9 (by kernel_rfl) ?_
    intro χ10 h10 D10
    refine finR (.bool true) (by kernel_rfl) (by kernel_rfl) (fun t10 => ?_)
    have K10 : Kp [] h9 h10 := D9.ro D10 (by kernel_rfl) rfl
    exact k' h10 g9 t10 gs9 (trans_old (trans_old (K8.weak (by simp)) K9 (fun a ha => .inr ha)) K10 (fun _ q => absurd q (nin0 _))) (T1.imp fun _ x => x.kp K10 (nin0 _)) (T2.imp fun _ x => x.kp K10 (nin0 _))
theorem half_ge (n : Nat) : 2 ≤ halfOf n := by
  unfold halfOf
  split
  · omega
  · split <;> omega
theorem half_le (n : Nat) : halfOf n ≤ 4 := by
  unfold halfOf
  split
  · omega
  · split <;> omega
theorem cns_len (sc : List Int) : 8 ≤ (cnsOf sc).length ∧ (cnsOf sc).length ≤ 38 := by
  unfold cnsOf
  rw [List.length_append, List.length_map, List.length_take]
  simp only [List.length_cons, List.length_nil]
  omega
theorem cns_lt (sc : List Int) : ∀ x ∈ cnsOf sc, x < 2 ^ 60 := by
  intro x hx
  unfold cnsOf at hx
  rcases List.mem_append.mp hx with hx | hx
  · obtain ⟨y, _, rfl⟩ := List.mem_map.mp hx
    have := Int.emod_lt_of_pos y (show (0 : Int) < 1000000000 by decide)
    have := Int.emod_nonneg y (show (1000000000 : Int) ≠ 0 by decide)
    omega
  · simp only [List.mem_cons, List.not_mem_nil, or_false] at hx
    omega
theorem law_spec {nS : Nat} {vs : List Value} {sc : List Int} {ps1 ps2 : Array Value}
    (hA : A.handled = none) (hd : A.depth + 650 < recursionLimit) (hu : A.units + 900 < cLine) (G : Gd w h) (aL : At w h 181 (lawO w)) (aS : At w h 182 (lstX vs.toArray nS)) (hI : IntsAre vs sc) (hl : vs.length ≤ 63) (t1 : TbA w h 63 ps1) (t2 : TbA w h 70 ps2)
    (k : ∀ h' g' tk', (AllBare g → AllBare g') → Kp [63, 70] h h' → (∃ p, TbA w h' 63 p) → (∃ p, TbA w h' 70 p) → R (.ok (.ret (.bool true))) ⟨h', g', dr, tk', os⟩) :
    codeAny (model pw w) A (.call (.ref 181) ⟨[.ref 182], []⟩) R ⟨h, g, dr, tk, os⟩ := by
  have hh2 := half_ge vs.length
  have hh4 := half_le vs.length
  refine law_a hA (by omega) G aL aS hl ?_
  generalize halfOf vs.length = half at hh2 hh4
  intro h1 tk1 F H1 K1' en1 u K1 G1 aF1 aC1 fF fF1
  have nFc : F + 1 ≠ F := Nat.succ_ne_self F
  have KK1 : Kp [63, 70] h h1 := K1.weak (by simp)
  have aS1 := aS.kp K1 (nin0 _)
  have t11 := t1.kp K1 (nin0 _)
  have t21 := t2.kp K1 (nin0 _)
  refine law_b (by exact hA) G1 aF1 aS1 hI hl ?_
  intro h2 tk2 H2 K2' en2 cl cvs K2 G2 aF2 ac2 hc fcl
  have KK2 := trans_old KK1 K2 (by intro a ha; rw [List.mem_singleton.mp ha]; exact .inl fF)
  have aC2 := aC1.kp K2 (nin1 nFc)
  have aS2 := aS1.kp K2 (nin1 (ne_of_cls aS1.1 aF1.1 (by kernel_rfl)))
  have t12 := t11.kpc K2 (kind1 aF1.1 (by simp))
  have t22 := t21.kpc K2 (kind1 aF1.1 (by simp))
  refine law_c (by exact hA) G2 aF2 aC2 ?_
  intro h3 tk3 Tb tqs K3 G3 aC3 aT3 rT3 fT
  have KK3 := trans_old KK2 K3 (by intro a ha; rw [List.mem_singleton.mp ha]; exact .inl fF1)
  have aF3 := aF2.kp K3 (nin1 (Ne.symm nFc))
  have ac3 := ac2.kp K3 (nin1 (ne_of_cls ac2.1 aC2.1 (by kernel_rfl)))
  have aS3 := aS2.kp K3 (nin1 (ne_of_cls aS2.1 aC2.1 (by kernel_rfl)))
  have t13 := t12.kpc K3 (kind1 aC2.1 (by simp))
  have t23 := t22.kpc K3 (kind1 aC2.1 (by simp))
  have hcl := cns_len sc
  have hcb := cns_lt sc
  have hvl := hc.length
  generalize cnsOf sc = cns at hc hcl hcb hvl
  refine law_d (by exact hA) G3 aF3 aC3 ac3 hc (by omega) hh4 aT3 rT3 ?_
  intro h4 tk4 H4 K4' en4 Pi hs nP K4 G4 aF4 ah4 rh4 fP
  have KK4 := trans_old KK3 K4 (by intro a ha; rw [List.mem_singleton.mp ha]; exact .inl fF)
  have aC4 := aC3.kp K4 (nin1 nFc)
  have ac4 := ac3.kp K4 (nin1 (ne_of_cls ac3.1 aF3.1 (by kernel_rfl)))
  have aT4 := aT3.kp K4 (nin1 (ne_of_cls aT3.1 aF3.1 (by kernel_rfl)))
  have rT4 := rT3.kpc K4 (kind1 aF3.1 (by simp))
  have aS4 := aS3.kp K4 (nin1 (ne_of_cls aS3.1 aF3.1 (by kernel_rfl)))
  have t14 := t13.kpc K4 (kind1 aF3.1 (by simp))
  have t24 := t23.kpc K4 (kind1 aF3.1 (by simp))
  have rh4' : Row w h4 hs (((cns.take (2 * half)).map (· % 8)).map pc) := by rw [List.map_map]; exact rh4
  refine (law_e (by exact hA) (by show A.depth + 1 + 600 < _; omega) (by show A.units + 3 + 800 < _; omega) G4 aF4 aC4 ac4 hc (by omega) (by omega) hcb hh2 hh4 aT4 rT4 ah4 rh4' (by rw [List.length_map, List.length_take]; omega) (by
    intro x hx
    obtain ⟨y, _, rfl⟩ := List.mem_map.mp hx
    exact Nat.mod_lt _ (by decide)) t14 t24 ⟨_, aS4.1⟩ ?_)
  intro h5 g5 tk5 gs5 K5 T1 T2
  exact k h5 g5 tk5 gs5 (trans_old KK4 K5 (fun a ha => .inr ha)) T1 T2
theorem slook_get {t : KT} {a : Nat} {o : Obj} (e : slook t a = some o) : t.get a = some o := by
  unfold slook at e
  split at e
  · split at e
    · cases e
    · split at e
      · cases e
      · split at e
        · cases e
        · split at e
          · cases e
          · exact e
  · cases e
theorem KT.Holds.at {kt : KT} (Z : KT.Holds h 1 0 kt) {a : Nat} {o : Obj} (e : kt.get a = some o) : h.get? a = some o := by
  have := Z.get e
  rw [Nat.one_mul, Nat.add_zero] at this
  exact this
theorem oldK_of {h h' : Heap} (G : Gd w h) (K : Kp [63, 70] h h') (t1 : TbA w h 63 #[]) (t2 : TbA w h 70 #[]) (x1 : ∃ p, TbA w h' 63 p) (x2 : ∃ p, TbA w h' 70 p) : OldK h h' := by
  refine ⟨fun b o e => ?_, K.1⟩
  by_cases h1 : b = 63
  · subst h1
    rw [t1.1.1] at e
    cases e
    obtain ⟨p, x⟩ := x1
    obtain ⟨_, _, ta⟩ := TbA.tb63 G t1
    refine .inr (.inl ⟨ta.isCodeTable, rfl, #[], p, rfl, ?_⟩)
    rw [Array.empty_append]
    exact x.1.1
  · by_cases h2 : b = 70
    · subst h2
      rw [t2.1.1] at e
      cases e
      obtain ⟨p, x⟩ := x2
      obtain ⟨_, _, ta⟩ := TbA.tb70 G t2
      refine .inr (.inl ⟨ta.isCodeTable, rfl, #[], p, rfl, ?_⟩)
      rw [Array.empty_append]
      exact x.1.1
    · exact .inl (K.2 b o e (by simp only [List.mem_cons, List.not_mem_nil, or_false, not_or]; exact ⟨h1, h2⟩))
theorem rest : Rest Mine.pre.ktop_393 := by
  intro w s₁ ns vs c cl mean args Z hl hI hn hg hr hp
  obtain ⟨h, g, d, tk, os⟩ := s₁
  have G : Gd w h := fun a o e => KT.Holds.at Z (slook_get e)
  have t1 : TbA w h 63 #[] := ⟨⟨KT.Holds.at Z (by kernel_rfl), by kernel_rfl⟩, trivial⟩
  have t2 : TbA w h 70 #[] := ⟨⟨KT.Holds.at Z (by kernel_rfl), by kernel_rfl⟩, trivial⟩
  refine wpAny_call ?_
  refine law_spec (nS := 0) (vs := vs) (sc := ns) rfl (by decide) (by decide) G ⟨KT.Holds.at Z (by kernel_rfl), by kernel_rfl⟩ ⟨hl, by kernel_rfl⟩ hI (by rw [ints_len hI]; exact hn) t1 t2 ?_
  intro h' g' tk' gs K x1 x2
  exact ⟨.inl ⟨_, _, [], rfl, hr, ReadsW.bool true, hp, fun _ => ⟨List.nodup_nil, fun _ hm => (nomatch hm)⟩⟩, oldK_of G K t1 t2 x1 x2, rfl, gs (AllBare.of_eq hg)⟩
theorem rest1 : Rest Mine.pre.1 := by
  rw [show Mine.pre.1 = Mine.pre.ktop_393 from by kernel_rfl]
  exact rest
end Mine
theorem PySem.Challenge.cw_pk0033_01_holds : PySem.Challenge.rw_pk0033_01.Holds :=
  Mine.pre.2 Mine.rest1
