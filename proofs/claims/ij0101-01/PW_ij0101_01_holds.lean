import PyProof.Rows.All
import Wide.All
import OpenK.AllK
import Wide.FinOn
import PySem.Challenge.RW_ij0101_01
open PySem PySem.W PyProof.Rows PySem.Calls
set_option Elab.async false
set_option maxRecDepth 100000
set_option maxHeartbeats 4000000
namespace Mine
/- the head: the written part of the heap (laid by the library's own line), the text that is kept, and the top's run by the kernel, one world's row at a time -/
abbrev rowW := PySem.Challenge.rw_ij0101_01.row.toRowW
def view : Program := { rowW.prog with main := { rowW.prog.main with body := [0, 2, 4, 5, 7, 8, 10, 11, 13, 14, 15, 16, 17, 18].filterMap fun i => rowW.prog.main.body[i]? } }
local macro_rules | `(tactic| o_head $_) => `(tactic| assumption)
set_option maxHeartbeats 0 in
theorem pre (h : PySem.Challenge.rw_ij0101_01.row.Holds) : PySem.Challenge.rw_ij0101_01.row.Holds := by
  k_head
noncomputable abbrev H : Hook := kmHook pre.heap_1 [2, 3, 6, 11, 12, 32, 35, 36, 40, 41, 42, 44, 45, 47, 48, 50, 54, 56, 57, 59, 60, 61, 63, 64, 66, 67, 68, 70, 71, 73, 74, 75, 77, 78, 80, 81, 82, 84, 85, 87, 88, 89, 91, 92, 94, 95, 96, 99, 100, 101, 104, 105, 106, 109, 110] (fun _ => by kernel_rfl) [62]
abbrev loose : List Str := [Str.ofString "_twin_re_1", Str.ofString "_special_chars_map"]
abbrev xt (s : Shared) : Bool := xlAt view [] s && recOk (RowW.records rowW) s
def Leaf (w : World) : Prop := (openEnds treeTable rowW.prog w 3552).map (fun s => (openSeen view loose (importedModules rowW.prog.main.body) xt true s, Hook.obs H s)) = some (openGood view loose, Hook.val H w)
theorem leaf1 (w : World) : Leaf ((w.withFollow "comprehension-iter-twice" false).withFollow "special-get-raises" false) := by
  show _ = _
  kernel_rfl
theorem leaf2 (w : World) : Leaf ((w.withFollow "comprehension-iter-twice" false).withFollow "special-get-raises" true) := by
  show _ = _
  kernel_rfl
theorem leaf3 (w : World) : Leaf ((w.withFollow "comprehension-iter-twice" true).withFollow "special-get-raises" false) := by
  show _ = _
  kernel_rfl
theorem leaf4 (w : World) : Leaf ((w.withFollow "comprehension-iter-twice" true).withFollow "special-get-raises" true) := by
  show _ = _
  kernel_rfl
inductive V where
  | none
  | bool (b : Bool)
  | int (i : Int)
  | str (x : List Nat)
  | ref (k : Nat)

inductive O where
  | list (xs : List V)
  | arg (xs : List V)
  | obj
  | app (k : Nat)
  | cell (X : Option V)

structure St where
  loc : String → Option V
  sto : List O
  nb : Nat

def St.set (st : St) (x : String) (v : V) : St := ⟨fun y => if y = x then some v else st.loc y, st.sto, st.nb⟩
def St.push (st : St) (o : O) : St := ⟨st.loc, st.sto ++ [o], st.nb⟩
def St.upd (st : St) (k : Nat) (o : O) : St := ⟨st.loc, st.sto.set k o, st.nb⟩

def Ext (σ σ' : List Addr) : Prop := ∀ (k : Nat) (a : Addr), σ[k]? = some a → σ'[k]? = some a
theorem Ext.rfl' {σ : List Addr} : Ext σ σ := fun _ _ h => h
theorem Ext.trans {σ σ' σ'' : List Addr} (x : Ext σ σ') (y : Ext σ' σ'') : Ext σ σ'' := fun k a h => y k a (x k a h)
theorem Ext.app (σ τ : List Addr) : Ext σ (σ ++ τ) := fun k a h => by
  obtain ⟨hk, _⟩ := List.getElem?_eq_some_iff.mp h
  rw [List.getElem?_append_left hk]; exact h

def VR (σ : List Addr) : V → Value → Prop
  | .none, v => v = .none
  | .bool b, v => v = .bool b
  | .int i, v => ∃ t, v = .int i t
  | .str x, v => ∃ t, v = .str ⟨x.toArray⟩ t
  | .ref k, v => ∃ a, σ[k]? = some a ∧ v = .ref a

theorem VR.ext {σ σ' : List Addr} (e : Ext σ σ') {X : V} {v : Value} (h : VR σ X v) : VR σ' X v := by
  cases X with
  | ref k => obtain ⟨a, h1, h2⟩ := h; exact ⟨a, e k a h1, h2⟩
  | _ => exact h

def VRs (σ : List Addr) : List V → List Value → Prop
  | [], vs => vs = []
  | X :: Xs, vs => ∃ v r, vs = v :: r ∧ VR σ X v ∧ VRs σ Xs r

theorem VRs.ext {σ σ' : List Addr} (e : Ext σ σ') : ∀ {Xs : List V} {vs : List Value}, VRs σ Xs vs → VRs σ' Xs vs
  | [], _, h => h
  | _ :: _, _, ⟨v, r, h1, h2, h3⟩ => ⟨v, r, h1, h2.ext e, VRs.ext e h3⟩
theorem VRs.len {σ : List Addr} : ∀ {Xs : List V} {vs : List Value}, VRs σ Xs vs → vs.length = Xs.length
  | [], _, h => by subst h; rfl
  | _ :: _, _, ⟨v, r, h1, h2, h3⟩ => by rw [h1, List.length_cons, List.length_cons, VRs.len h3]
theorem VRs.get {σ : List Addr} : ∀ {Xs : List V} {vs : List Value}, VRs σ Xs vs → ∀ (i : Nat) (X : V), Xs[i]? = some X → ∃ v, vs[i]? = some v ∧ VR σ X v
  | [], _, _, i, X, e => by simp at e
  | Y :: Ys, _, ⟨v, r, h1, h2, h3⟩, i, X, e => by
    cases i with
    | zero => simp at e; subst e; exact ⟨v, by rw [h1]; rfl, h2⟩
    | succ i => rw [h1]; simpa using VRs.get h3 i X (by simpa using e)
theorem VRs.append {σ : List Addr} : ∀ {Xs Ys : List V} {vs ws : List Value}, VRs σ Xs vs → VRs σ Ys ws → VRs σ (Xs ++ Ys) (vs ++ ws)
  | [], _, _, _, h, h' => by rw [h]; exact h'
  | _ :: _, _, _, _, ⟨v, r, h1, h2, h3⟩, h' => ⟨v, r ++ _, by rw [h1]; rfl, h2, h3.append h'⟩
theorem VRs.take {σ : List Addr} : ∀ {Xs : List V} {vs : List Value} (n : Nat), VRs σ Xs vs → VRs σ (Xs.take n) (vs.take n)
  | [], _, n, h => by rw [h]; simp; rfl
  | _ :: _, _, 0, _ => by simp; rfl
  | _ :: _, _, n + 1, ⟨v, r, h1, h2, h3⟩ => ⟨v, r.take n, by rw [h1]; rfl, h2, h3.take n⟩
theorem VRs.drop {σ : List Addr} : ∀ {Xs : List V} {vs : List Value} (n : Nat), VRs σ Xs vs → VRs σ (Xs.drop n) (vs.drop n)
  | [], _, n, h => by rw [h]; simp; rfl
  | _ :: _, _, 0, h => h
  | _ :: _, _, n + 1, ⟨v, r, h1, h2, h3⟩ => by rw [h1]; exact h3.drop n
theorem VRs.set {σ : List Addr} : ∀ {Xs : List V} {vs : List Value} (i : Nat) {X : V} {v : Value}, VRs σ Xs vs → VR σ X v → VRs σ (Xs.set i X) (vs.set i v)
  | [], _, i, _, _, h, _ => by rw [h]; simp; rfl
  | _ :: _, _, 0, _, _, ⟨v, r, h1, h2, h3⟩, hx => ⟨_, r, by rw [h1]; rfl, hx, h3⟩
  | _ :: _, _, n + 1, _, _, ⟨v, r, h1, h2, h3⟩, hx => ⟨v, _, by rw [h1]; rfl, h2, h3.set n hx⟩
theorem VRs.erase {σ : List Addr} : ∀ {Xs : List V} {vs : List Value} (i : Nat), VRs σ Xs vs → VRs σ (Xs.eraseIdx i) (vs.eraseIdx i)
  | [], _, i, h => by rw [h]; simp; rfl
  | _ :: _, _, 0, ⟨v, r, h1, h2, h3⟩ => by rw [h1]; exact h3
  | _ :: _, _, n + 1, ⟨v, r, h1, h2, h3⟩ => ⟨v, _, by rw [h1]; rfl, h2, h3.erase n⟩

def OR (σ : List Addr) : O → Obj → Prop
  | .list xs, o => ∃ vs n, o = { cls := .type "list", data := .seq vs.toArray n } ∧ VRs σ xs vs
  | .arg xs, o => o.cls = .type "list" ∧ ∃ vs n, o.data = .seq vs.toArray n ∧ VRs σ xs vs
  | .obj, o => o = { cls := .type "object" }
  | .app k, o => ∃ a, σ[k]? = some a ∧ o = { cls := .type "builtin_function_or_method", data := .fields #[.builtin "list.append", .ref a] }
  | .cell none, o => o.data = .cell none
  | .cell (some X), o => ∃ v, o.data = .cell (some v) ∧ VR σ X v

theorem OR.ext {σ σ' : List Addr} (e : Ext σ σ') {X : O} {o : Obj} (h : OR σ X o) : OR σ' X o := by
  cases X with
  | list xs => obtain ⟨vs, n, h2, h3⟩ := h; exact ⟨vs, n, h2, h3.ext e⟩
  | arg xs => obtain ⟨h1, vs, n, h2, h3⟩ := h; exact ⟨h1, vs, n, h2, h3.ext e⟩
  | obj => exact h
  | app k => obtain ⟨a, h1, h2⟩ := h; exact ⟨a, e k a h1, h2⟩
  | cell X =>
    cases X with
    | none => exact h
    | some X => obtain ⟨v, h1, h2⟩ := h; exact ⟨v, h1, h2.ext e⟩

/-- what is the same all along -/
structure Gl where
  prog : Program
  w : World
  K : Frag
  mg : Str → Option Value
  mb : Str → Option Value
  P : Addr
  os : OsState
  code : Pos → Obj → Prop
structure Cx where
  G : Gl
  base : Heap
  L : Addr
  nb : Nat
  d : Nat
  cd : Value
  qual : Str
  pins : List (Addr × Obj)
  cl : List (Str × Addr)
  ci : String → Option Nat

structure Cx.Ok (C : Cx) : Prop where
  g : C.base.Ns mainGlobals C.G.mg
  b : C.base.Ns builtinsNs C.G.mb
  lim : C.base.NoLimit
  k : C.G.K.In C.base
  boot : ∀ x : Str, x ≠ "__name__" → C.G.mb x = bootBuiltins x
  bmain : ∃ bm ob, C.G.mg "__builtins__" = some (.ref bm) ∧ bm ≠ builtinsNs ∧ C.base.get? bm = some ob ∧ ob.cls = .type "module" ∧ ob.dict = some builtinsNs ∧ ob.data = .plain
  noP : C.base.get? C.G.P = none
  PL : C.G.P < C.base.objs.size

def TabOk (C : Cx) (h : Heap) : Prop :=
  ∃ ps, h.get? C.G.P = some (tabObj ps) ∧ TriplesOk ps.toList ∧ ∀ pos c, codeAmong pos ps.toList = some c → ∃ a o, c = .ref a ∧ h.get? a = some o ∧ C.G.code pos o ∧ o.cls = .type "code" ∧ ∃ vs, o.data = .fields vs
theorem TabOk.keeps {C : Cx} {h h' : Heap} (x : TabOk C h) (hk : ∀ b o, h.get? b = some o → h'.get? b = some o) : TabOk C h' :=
  let ⟨ps, h1, h2, h3⟩ := x
  ⟨ps, hk _ _ h1, h2, fun pos c e => let ⟨a, o, e1, e2, e3⟩ := h3 pos c e; ⟨a, o, e1, hk _ _ e2, e3⟩⟩

/-- what holds of an own table of locals -/
def LocR (σ : List Addr) (loc : String → Option V) (m : Str → Option Value) : Prop :=
  ∀ x X, loc x = some X → ∃ v, m (Str.ofString x) = some v ∧ VR σ X v

structure Inv (C : Cx) (σ : List Addr) (st : St) (h : Heap) (g : Array GenState) (os : OsState) : Prop where
  ok : C.Ok
  fr : ∃ m, Fr C.base C.L h m ∧ LocR σ st.loc m
  len : σ.length = st.sto.length
  nd : σ.Nodup
  obj : ∀ (k : Nat) (o : O), st.sto[k]? = some o → ∃ (a : Addr) (ob : Obj), σ[k]? = some a ∧ h.get? a = some ob ∧ OR σ o ob
  ne : ∀ a ∈ σ, a ≠ C.L ∧ a ≠ C.G.P
  own : ∀ (k : Nat) (a : Addr), st.nb ≤ k → σ[k]? = some a → C.base.get? a = none
  tab : TabOk C h
  gens : AllBare g
  eos : os = C.G.os
  enb : st.nb = C.nb
  pin : ∀ p ∈ C.pins, h.get? p.1 = some p.2 ∧ p.1 ∉ σ ∧ p.1 ≠ C.L ∧ p.1 ≠ C.G.P
  cel : ∀ (x : String) (k : Nat), C.ci x = some k → ∃ a : Addr, σ[k]? = some a ∧ C.cl.lookup (Str.ofString x) = some a

theorem ofString_inj {x y : String} (h : Str.ofString x = Str.ofString y) : x = y := by
  rw [Str.ofString_eq_toList, Str.ofString_eq_toList] at h
  have h1 : (x.toList.map Char.toNat) = (y.toList.map Char.toNat) := by
    have := congrArg (fun s : Str => s.cps.toList) h
    simpa using this
  have h2 : x.toList = y.toList := by
    have inj : ∀ a b : Char, a.toNat = b.toNat → a = b := fun a b e => Char.ext (UInt32.toNat_inj.mp e)
    exact List.map_inj_right inj |>.mp h1
  exact String.toList_inj.mp h2

theorem LocR.set {σ : List Addr} {loc : String → Option V} {m : Str → Option Value} (h : LocR σ loc m) {x : String} {X : V} {v : Value} (hv : VR σ X v) :
    LocR σ (fun y => if y = x then some X else loc y) (fun y => if y = Str.ofString x then some v else m y) := by
  intro y Y e
  by_cases hy : y = x
  · subst hy
    simp only [if_true] at e ⊢
    cases e
    exact ⟨v, rfl, hv⟩
  · simp only [if_neg hy] at e
    have : Str.ofString y ≠ Str.ofString x := fun q => hy (ofString_inj q)
    simp only [if_neg this]
    exact h y Y e

section
variable {C : Cx} {σ : List Addr} {st : St} {h : Heap} {g : Array GenState} {os : OsState}

theorem Inv.P_lt (I : Inv C σ st h g os) : @LT.lt Nat _ C.G.P C.L := by
  obtain ⟨m, F, _⟩ := I.fr
  exact Nat.lt_of_lt_of_le I.ok.PL F.above
theorem Inv.lt (I : Inv C σ st h g os) {k : Nat} {a : Addr} (e : σ[k]? = some a) : @LT.lt Nat _ a h.objs.size := by
  have hk : k < st.sto.length := by rw [← I.len]; exact (List.getElem?_eq_some_iff.mp e).1
  obtain ⟨a', ob, h1, h2, _⟩ := I.obj k st.sto[k] (List.getElem?_eq_getElem hk)
  rw [e] at h1; cases h1
  exact Heap.lt_size h2
theorem Inv.mem_lt (I : Inv C σ st h g os) {a : Addr} (e : a ∈ σ) : @LT.lt Nat _ a h.objs.size := by
  obtain ⟨k, hk⟩ := List.mem_iff_getElem?.mp e
  exact I.lt hk

/-- all that stood stands -/
theorem Inv.keeps (I : Inv C σ st h g os) {h' : Heap} (hk : ∀ b o, h.get? b = some o → h'.get? b = some o) : Inv C σ st h' g os where
  ok := I.ok
  fr := by
    obtain ⟨m, F, l⟩ := I.fr
    obtain ⟨o, es, ep, ho, r⟩ := F.ns
    exact ⟨m, ⟨⟨o, es, ep, hk _ _ ho, r⟩, fun b o e => hk _ _ (F.keep b o e), F.above⟩, l⟩
  len := I.len
  nd := I.nd
  obj := fun k o e => let ⟨a, ob, h1, h2, h3⟩ := I.obj k o e; ⟨a, ob, h1, hk _ _ h2, h3⟩
  ne := I.ne
  own := I.own
  tab := I.tab.keeps hk
  gens := I.gens
  eos := I.eos
  enb := I.enb
  pin := fun p hp => ⟨hk _ _ (I.pin p hp).1, (I.pin p hp).2⟩
  cel := I.cel
theorem Inv.heapPush (I : Inv C σ st h g os) (o : Obj) : Inv C σ st (h.push o) g os := I.keeps fun _ _ e => Heap.get?_push_of_some o e

/-- a name stored -/
theorem Inv.set (I : Inv C σ st h g os) {m : Str → Option Value} (F : Fr C.base C.L h m) (l : LocR σ st.loc m) {x : String} {X : V} {v : Value} (hv : VR σ X v) {h' : Heap}
    (hn : h'.Ns C.L (fun y => if y = Str.ofString x then some v else m y)) (hs : Heap.SameBut C.L h h') : Inv C σ (st.set x X) h' g os where
  ok := I.ok
  fr := ⟨_, F.set hn hs, l.set hv⟩
  len := I.len
  nd := I.nd
  obj := fun k o e => let ⟨a, ob, h1, h2, h3⟩ := I.obj k o e; ⟨a, ob, h1, (hs.2 a (I.ne a (List.mem_of_getElem? h1)).1).trans h2, h3⟩
  ne := I.ne
  own := I.own
  tab := by
    obtain ⟨ps, h1, h2, h3⟩ := I.tab
    have hP : C.G.P ≠ C.L := Nat.ne_of_lt I.P_lt
    obtain ⟨oL, es, ep, hL, hd, _⟩ := F.ns
    refine ⟨ps, (hs.2 _ hP).trans h1, h2, fun pos c e => ?_⟩
    obtain ⟨a, o, e1, e2, e3⟩ := h3 pos c e
    by_cases ha : a = C.L
    · obtain ⟨vs, e4⟩ := e3.2.2
      rw [ha, hL] at e2; cases e2; rw [hd] at e4; cases e4
    · exact ⟨a, o, e1, (hs.2 a ha).trans e2, e3⟩
  gens := I.gens
  eos := I.eos
  enb := I.enb
  pin := fun p hp => ⟨(hs.2 _ (I.pin p hp).2.2.1).trans (I.pin p hp).1, (I.pin p hp).2⟩
  cel := I.cel

/-- a new object -/
theorem Inv.newObj (I : Inv C σ st h g os) {h' : Heap} (hk : ∀ b o, h.get? b = some o → h'.get? b = some o) {a : Addr} {ob : Obj} {o : O} (ha : @LE.le Nat _ h.objs.size a)
    (hob : h'.get? a = some ob) (hr : OR (σ ++ [a]) o ob) : Inv C (σ ++ [a]) (st.push o) h' g os where
  ok := I.ok
  fr := by
    obtain ⟨m, F, l⟩ := (I.keeps hk).fr
    exact ⟨m, F, fun x X e => let ⟨v, e1, e2⟩ := l x X e; ⟨v, e1, e2.ext (Ext.app _ _)⟩⟩
  len := by simp [St.push, I.len]
  nd := by
    rw [List.nodup_append]
    refine ⟨I.nd, by simp, fun x hx y hy => ?_⟩
    have h1 := I.mem_lt hx
    simp at hy
    subst hy
    exact Nat.ne_of_lt (Nat.lt_of_lt_of_le h1 ha)
  obj := fun k o' e => by
    by_cases hlt : k < st.sto.length
    · have e' : st.sto[k]? = some o' := by
        have : (st.sto ++ [o])[k]? = some o' := e
        rwa [List.getElem?_append_left hlt] at this
      obtain ⟨b, ob', h1, h2, h3⟩ := I.obj k o' e'
      exact ⟨b, ob', Ext.app σ [a] k b h1, hk _ _ h2, h3.ext (Ext.app _ _)⟩
    · have hlen := I.len
      have e'' : (st.sto ++ [o])[k]? = some o' := e
      have hk' : k = st.sto.length := by
        have := (List.getElem?_eq_some_iff.mp e'').1
        simp at this; omega
      subst hk'
      have : o' = o := by simpa using e''.symm
      subst this
      exact ⟨a, ob, by rw [← hlen]; simp, hob, hr⟩
  ne := fun b hb => by
    rcases List.mem_append.mp hb with hb | hb
    · exact I.ne b hb
    · simp at hb; subst hb
      obtain ⟨m, F, _⟩ := I.fr
      have h1 : @LT.lt Nat _ C.L h.objs.size := F.ns.lt
      have h2 := I.P_lt
      exact ⟨Nat.ne_of_gt (Nat.lt_of_lt_of_le h1 ha), Nat.ne_of_gt (Nat.lt_trans h2 (Nat.lt_of_lt_of_le h1 ha))⟩
  own := fun k b hk' e => by
    by_cases hlt : k < σ.length
    · rw [List.getElem?_append_left hlt] at e
      exact I.own k b hk' e
    · have : k = σ.length := by
        have := (List.getElem?_eq_some_iff.mp e).1
        simp at this; omega
      subst this
      have hb : b = a := by simpa using e.symm
      subst hb
      obtain ⟨m, F, _⟩ := I.fr
      cases q : C.base.get? b with
      | none => rfl
      | some o => exact absurd (Heap.lt_size (F.keep _ _ q)) (Nat.not_lt.mpr ha)
  tab := I.tab.keeps hk
  gens := I.gens
  eos := I.eos
  enb := I.enb
  pin := fun p hp => ⟨hk _ _ (I.pin p hp).1, fun q => by
    rcases List.mem_append.mp q with q | q
    · exact (I.pin p hp).2.1 q
    · have : p.1 = a := by simpa using q
      exact absurd (Heap.lt_size (I.pin p hp).1) (by rw [this]; exact Nat.not_lt.mpr ha), (I.pin p hp).2.2⟩
  cel := fun x k e => let ⟨b, h1, h2⟩ := I.cel x k e; ⟨b, Ext.app _ _ k b h1, h2⟩

/-- a list of the call's own is changed -/
theorem Inv.updObj (I : Inv C σ st h g os) {h' : Heap} {k : Nat} {a : Addr} {ob ob' : Obj} {o : O} (hk : σ[k]? = some a) (hnb : st.nb ≤ k) (ho : h.get? a = some ob) (hd : ∀ ws, ob.data ≠ .fields ws)
    (hs : Heap.SameBut a h h') (hob : h'.get? a = some ob') (hr : OR σ o ob') : Inv C σ (st.upd k o) h' g os := by
  have haL := I.ne a (List.mem_of_getElem? hk)
  have hown := I.own k a hnb hk
  refine ⟨I.ok, ?_, ?_, I.nd, ?_, I.ne, I.own, ?_, I.gens, I.eos, I.enb, fun p hp => ⟨(hs.2 _ fun q => (I.pin p hp).2.1 (by rw [q]; exact List.mem_of_getElem? hk)).trans (I.pin p hp).1, (I.pin p hp).2⟩, I.cel⟩
  · obtain ⟨m, F, l⟩ := I.fr
    exact ⟨m, ⟨F.ns.sameBut hs (Ne.symm haL.1), fun b ob e => (hs.2 b (fun q => by rw [q, hown] at e; cases e)).trans (F.keep b ob e), F.above⟩, l⟩
  · show σ.length = (st.sto.set k o).length
    rw [List.length_set]; exact I.len
  · intro j o' e
    have e' : (st.sto.set k o)[j]? = some o' := e
    by_cases hj : j = k
    · subst hj
      have hlt : j < st.sto.length := by rw [← I.len]; exact (List.getElem?_eq_some_iff.mp hk).1
      have : o' = o := by rw [List.getElem?_set_self hlt] at e'; exact (Option.some.inj e').symm
      subst this
      exact ⟨a, ob', hk, hob, hr⟩
    · rw [List.getElem?_set_ne (Ne.symm hj)] at e'
      obtain ⟨b, ob2, h1, h2, h3⟩ := I.obj j o' e'
      have hba : b ≠ a := fun q => hj (by
        subst q
        exact (List.getElem?_inj (List.getElem?_eq_some_iff.mp h1).1 I.nd).mp (h1.trans hk.symm))
      exact ⟨b, ob2, h1, (hs.2 b hba).trans h2, h3⟩
  · obtain ⟨ps, h1, h2, h3⟩ := I.tab
    refine ⟨ps, (hs.2 _ (Ne.symm haL.2)).trans h1, h2, fun pos c e => ?_⟩
    obtain ⟨b, o2, e1, e2, e3⟩ := h3 pos c e
    refine ⟨b, o2, e1, (hs.2 b fun q => ?_).trans e2, e3⟩
    obtain ⟨ws, e4⟩ := e3.2.2
    subst q
    rw [ho] at e2; cases e2; exact hd _ e4

theorem Cx.Ok.keeps {C : Cx} (O : C.Ok) {h : Heap} (hk : ∀ b o, C.base.get? b = some o → h.get? b = some o) (hsz : C.base.objs.size ≤ h.objs.size) (L : Addr) (n d : Nat) (cd : Value) (q : Str) :
    Cx.Ok { C with base := hideAll h [C.G.P], L := L, nb := n, d := d, cd := cd, qual := q, pins := [], cl := [], ci := fun _ => none } := by
  have k : ∀ b o, C.base.get? b = some o → (hideAll h [C.G.P]).get? b = some o := fun b o e => by
    refine hideAll_get _ (hk b o e) ?_
    intro q; simp at q; rw [q, O.noP] at e; cases e
  exact ⟨O.g.keeps k, O.b.keeps k, O.lim.keeps k, O.k.keeps k, O.boot, let ⟨bm, ob, h1, h2, h3, r⟩ := O.bmain; ⟨bm, ob, h1, h2, k _ _ h3, r⟩, hideAll_none _ (by simp),
    by show C.G.P < (hideAll h [C.G.P]).objs.size; rw [hideAll_size]; exact Nat.lt_of_lt_of_le O.PL hsz⟩

abbrev Cx.sub (C : Cx) (h : Heap) (n d : Nat) (cd : Value) (q : Str) : Cx := { C with base := hideAll h [C.G.P], L := h.objs.size, nb := n, d := d, cd := cd, qual := q, pins := [], cl := [], ci := fun _ => none }

/-- into a called def -/
theorem Inv.enter (I : Inv C σ st h g os) {d : Nat} {cd : Value} {q : Str} {h₁ : Heap} {m : Str → Option Value} {loc : String → Option V} (hn : h₁.Ns h.objs.size m) (hk : ∀ b o, h.get? b = some o → h₁.get? b = some o) (hl : LocR σ loc m) :
    Inv (C.sub h st.sto.length d cd q) σ ⟨loc, st.sto, st.sto.length⟩ h₁ g os where
  ok := by
    obtain ⟨m', F, _⟩ := I.fr
    exact I.ok.keeps F.keep (Nat.le_trans F.above (Nat.le_of_lt F.ns.lt)) _ _ _ _ _
  fr := ⟨m, ⟨hn, fun b o e => hk b o (of_hideAll _ e), Nat.le_of_eq (hideAll_size _ _)⟩, hl⟩
  len := I.len
  nd := I.nd
  obj := fun k o e => let ⟨a, ob, h1, h2, h3⟩ := I.obj k o e; ⟨a, ob, h1, hk _ _ h2, h3⟩
  ne := fun a ha => ⟨Nat.ne_of_lt (I.mem_lt ha), (I.ne a ha).2⟩
  own := fun k a hk' e => by
    have := (List.getElem?_eq_some_iff.mp e).1
    have h2 := I.len
    have h3 : st.sto.length ≤ k := hk'
    omega
  tab := by
    obtain ⟨ps, h1, h2, h3⟩ := I.tab
    exact ⟨ps, hk _ _ h1, h2, fun pos c e => let ⟨a, o, e1, e2, e3⟩ := h3 pos c e; ⟨a, o, e1, hk _ _ e2, e3⟩⟩
  gens := I.gens
  eos := I.eos
  enb := rfl
  pin := fun p hp => nomatch hp
  cel := fun x k e => nomatch e

/-- out of it -/
theorem Inv.leave (I : Inv C σ st h g os) {d : Nat} {cd : Value} {qu : Str} {σ' : List Addr} {st' : St} {h' : Heap} {g' : Array GenState} {os' : OsState} (J : Inv (C.sub h st.sto.length d cd qu) σ' st' h' g' os') (e : Ext σ σ') :
    Inv C σ' ⟨st.loc, st'.sto, st.nb⟩ h' g' os' := by
  obtain ⟨m', F', _⟩ := J.fr
  have kp : ∀ b o, b ≠ C.G.P → h.get? b = some o → h'.get? b = some o := fun b o hb e => F'.keep b o (hideAll_get _ e (by simpa using hb))
  obtain ⟨m, F, l⟩ := I.fr
  have hPL := I.P_lt
  refine ⟨I.ok, ⟨m, ⟨?_, fun b o e => kp b o (fun q => by rw [q, I.ok.noP] at e; cases e) (F.keep b o e), F.above⟩, fun x X q => let ⟨v, e1, e2⟩ := l x X q; ⟨v, e1, e2.ext e⟩⟩, J.len, J.nd, J.obj, fun a ha => ⟨?_, (J.ne a ha).2⟩, ?_, J.tab, J.gens, J.eos, I.enb, fun p hp => ⟨kp _ _ (I.pin p hp).2.2.2 (I.pin p hp).1, ?_, (I.pin p hp).2.2⟩, fun x k q => let ⟨b, h1, h2⟩ := I.cel x k q; ⟨b, e k b h1, h2⟩⟩
  · obtain ⟨o, es, ep, ho, r⟩ := F.ns
    exact ⟨o, es, ep, kp _ _ (Ne.symm (Nat.ne_of_lt hPL)) ho, r⟩
  · -- the caller's table of names is none of the objects
    intro q
    obtain ⟨k, hk⟩ := List.mem_iff_getElem?.mp ha
    by_cases hlt : k < σ.length
    · have h1 : σ[k]? = some σ[k] := List.getElem?_eq_getElem hlt
      have h2 := e k _ h1
      rw [hk] at h2; cases h2
      exact (I.ne _ (List.mem_of_getElem? h1)).1 q
    · have h1 : (C.sub h st.sto.length d cd qu).base.get? a = none := J.own k a (by have h5 : st'.nb = st.sto.length := J.enb; rw [h5, ← I.len]; exact Nat.le_of_not_lt hlt) hk
      obtain ⟨o, es, ep, ho, r⟩ := F.ns
      have h2 : (hideAll h [C.G.P]).get? a = some o := hideAll_get _ (by rw [q]; exact ho) (by simp; rw [q]; exact Nat.ne_of_gt hPL)
      rw [show (C.sub h st.sto.length d cd qu).base = hideAll h [C.G.P] from rfl, h2] at h1; cases h1
  · intro k a hk' e'
    by_cases hlt : k < σ.length
    · have h1 : σ[k]? = some σ[k] := List.getElem?_eq_getElem hlt
      have h2 := e k _ h1
      rw [e'] at h2; cases h2
      exact I.own k _ hk' h1
    · have h1 : (C.sub h st.sto.length d cd qu).base.get? a = none := J.own k a (by have h5 : st'.nb = st.sto.length := J.enb; rw [h5, ← I.len]; exact Nat.le_of_not_lt hlt) e'
      cases q : C.base.get? a with
      | none => rfl
      | some o =>
        have h2 : (hideAll h [C.G.P]).get? a = some o := hideAll_get _ (F.keep _ _ q) (fun z => by simp at z; rw [z, I.ok.noP] at q; cases q)
        rw [show (C.sub h st.sto.length d cd qu).base = hideAll h [C.G.P] from rfl, h2] at h1; cases h1
  · intro q
    obtain ⟨k, hk⟩ := List.mem_iff_getElem?.mp q
    by_cases hlt : k < σ.length
    · have h1 : σ[k]? = some σ[k] := List.getElem?_eq_getElem hlt
      have h2 := e k _ h1
      rw [hk] at h2
      exact (I.pin p hp).2.1 (by rw [Option.some.inj h2]; exact List.mem_of_getElem? h1)
    · have h1 : (C.sub h st.sto.length d cd qu).base.get? p.1 = none := J.own k p.1 (by have h5 : st'.nb = st.sto.length := J.enb; rw [h5, ← I.len]; exact Nat.le_of_not_lt hlt) hk
      have h2 : (hideAll h [C.G.P]).get? p.1 = some p.2 := hideAll_get _ (I.pin p hp).1 (by simpa using (I.pin p hp).2.2.2)
      rw [show (C.sub h st.sto.length d cd qu).base = hideAll h [C.G.P] from rfl, h2] at h1; cases h1

abbrev Cx.pin (C : Cx) (a : Addr) (o : Obj) : Cx := { C with pins := (a, o) :: C.pins }
theorem Inv.pinOn (I : Inv C σ st h g os) {a : Addr} {o : Obj} (ho : h.get? a = some o) (h1 : a ∉ σ) (h2 : a ≠ C.L) (h3 : a ≠ C.G.P) : Inv (C.pin a o) σ st h g os :=
  ⟨⟨I.ok.g, I.ok.b, I.ok.lim, I.ok.k, I.ok.boot, I.ok.bmain, I.ok.noP, I.ok.PL⟩, I.fr, I.len, I.nd, I.obj, I.ne, I.own, I.tab, I.gens, I.eos, I.enb, fun p hp => by
    rcases List.mem_cons.mp hp with rfl | hp
    · exact ⟨ho, h1, h2, h3⟩
    · exact I.pin p hp, I.cel⟩
theorem Inv.pinOff {a : Addr} {o : Obj} (I : Inv (C.pin a o) σ st h g os) : Inv C σ st h g os ∧ h.get? a = some o ∧ a ∉ σ ∧ a ≠ C.L ∧ a ≠ C.G.P :=
  ⟨⟨⟨I.ok.g, I.ok.b, I.ok.lim, I.ok.k, I.ok.boot, I.ok.bmain, I.ok.noP, I.ok.PL⟩, I.fr, I.len, I.nd, I.obj, I.ne, I.own, I.tab, I.gens, I.eos, I.enb, fun p hp => I.pin p (List.mem_cons_of_mem _ hp), I.cel⟩, I.pin (a, o) (List.mem_cons_self ..)⟩
/-- a thing apart is turned -/
theorem Inv.apart (I : Inv C σ st h g os) {a : Addr} {h' : Heap} {oa : Obj} (hs : Heap.ExtBut a h h') (h1 : a ∉ σ) (h2 : a ≠ C.L) (h3 : a ≠ C.G.P) (h4 : C.base.get? a = none) (h5 : ∀ p ∈ C.pins, p.1 ≠ a)
    (ho : h.get? a = some oa) (hc : oa.cls ≠ .type "code" ∨ ∀ ws, oa.data ≠ .fields ws) : Inv C σ st h' g os := by
  refine ⟨I.ok, ?_, I.len, I.nd, ?_, I.ne, I.own, ?_, I.gens, I.eos, I.enb, fun p hp => ⟨hs _ _ (h5 p hp) (I.pin p hp).1, (I.pin p hp).2⟩, I.cel⟩
  · obtain ⟨m, F, l⟩ := I.fr
    exact ⟨m, ⟨F.ns.extBut hs (Ne.symm h2), fun b ob e => hs _ _ (fun q => by rw [q, h4] at e; cases e) (F.keep b ob e), F.above⟩, l⟩
  · intro k o e
    obtain ⟨b, ob, e1, e2, e3⟩ := I.obj k o e
    exact ⟨b, ob, e1, hs _ _ (fun q => h1 (q ▸ List.mem_of_getElem? e1)) e2, e3⟩
  · obtain ⟨ps, e1, e2, e3⟩ := I.tab
    refine ⟨ps, hs _ _ (Ne.symm h3) e1, e2, fun pos c e => ?_⟩
    obtain ⟨b, o2, f1, f2, f3⟩ := e3 pos c e
    refine ⟨b, o2, f1, hs _ _ (fun q => ?_) f2, f3⟩
    subst q
    rw [ho] at f2; cases f2
    obtain ⟨ws, f4⟩ := f3.2.2
    exact hc.elim (fun q => q f3.2.1) fun q => q ws f4
/-- a thing apart becomes one of the objects -/
theorem Inv.adopt (I : Inv C σ st h g os) {a : Addr} {ob : Obj} {o : O} (h1 : a ∉ σ) (h2 : a ≠ C.L) (h3 : a ≠ C.G.P) (h4 : C.base.get? a = none) (h5 : ∀ p ∈ C.pins, p.1 ≠ a)
    (hob : h.get? a = some ob) (hr : OR (σ ++ [a]) o ob) : Inv C (σ ++ [a]) (st.push o) h g os where
  ok := I.ok
  fr := by
    obtain ⟨m, F, l⟩ := I.fr
    exact ⟨m, F, fun x X e => let ⟨v, e1, e2⟩ := l x X e; ⟨v, e1, e2.ext (Ext.app _ _)⟩⟩
  len := by simp [St.push, I.len]
  nd := by
    rw [List.nodup_append]
    refine ⟨I.nd, by simp, fun x hx y hy => ?_⟩
    simp at hy
    subst hy
    exact fun q => h1 (q ▸ hx)
  obj := fun k o' e => by
    by_cases hlt : k < st.sto.length
    · have e' : st.sto[k]? = some o' := by
        have : (st.sto ++ [o])[k]? = some o' := e
        rwa [List.getElem?_append_left hlt] at this
      obtain ⟨b, ob', h1, h2, h3⟩ := I.obj k o' e'
      exact ⟨b, ob', Ext.app σ [a] k b h1, h2, h3.ext (Ext.app _ _)⟩
    · have hlen := I.len
      have e'' : (st.sto ++ [o])[k]? = some o' := e
      have hk' : k = st.sto.length := by
        have := (List.getElem?_eq_some_iff.mp e'').1
        simp at this; omega
      subst hk'
      have : o' = o := by simpa using e''.symm
      subst this
      exact ⟨a, ob, by rw [← hlen]; simp, hob, hr⟩
  ne := fun b hb => by
    rcases List.mem_append.mp hb with hb | hb
    · exact I.ne b hb
    · simp at hb; subst hb; exact ⟨h2, h3⟩
  own := fun k b hk' e => by
    by_cases hlt : k < σ.length
    · rw [List.getElem?_append_left hlt] at e
      exact I.own k b hk' e
    · have : k = σ.length := by
        have := (List.getElem?_eq_some_iff.mp e).1
        simp at this; omega
      subst this
      have hb : b = a := by simpa using e.symm
      subst hb; exact h4
  tab := I.tab
  gens := I.gens
  eos := I.eos
  enb := I.enb
  pin := fun p hp => ⟨(I.pin p hp).1, fun q => by
    rcases List.mem_append.mp q with q | q
    · exact (I.pin p hp).2.1 q
    · exact h5 p hp (by simpa using q), (I.pin p hp).2.2⟩
  cel := fun x k e => let ⟨b, h1, h2⟩ := I.cel x k e; ⟨b, Ext.app _ _ k b h1, h2⟩
end
def AOk (d : Nat) (A : Around) : Prop := A.handled = none ∧ A.depth + d ≤ 900 ∧ A.units + 20 * d ≤ 9000

structure EnvAt (C : Cx) (sc : Scope) (env : Env) : Prop where
  esc : env.scope = sc
  loc : env.locals = C.L
  glob : env.globals = mainGlobals
  blt : env.builtins = builtinsNs
  kind : sc.kind = .function
  code : env.code = C.cd
  qual : env.qual = C.qual
  cells : env.cells = C.cl

def Bot : Value → Shared → Prop := fun _ _ => False
abbrev InvS (C : Cx) (σ : List Addr) (st : St) (s : Shared) : Prop := Inv C σ st s.heap s.gens s.os

inductive Fl where
  | next
  | brk
  | cont
  | ret (X : V)
def FR (σ : List Addr) : Fl → Flow → Prop
  | .next, f => f = .next
  | .brk, f => f = .brk
  | .cont, f => f = .cont
  | .ret X, f => ∃ v, f = .ret v ∧ VR σ X v

abbrev EW := St → (V → St → Prop) → Prop
abbrev LW := St → (List V → St → Prop) → Prop
abbrev BW := St → (Bool → St → Prop) → Prop
abbrev SW := St → (Fl → St → Prop) → Prop

abbrev PV (C : Cx) (σ : List Addr) (Q : V → St → Prop) : Value → Shared → Prop := fun v s' => ∃ σ' X st', Ext σ σ' ∧ VR σ' X v ∧ InvS C σ' st' s' ∧ Q X st'
abbrev PL (C : Cx) (σ : List Addr) (Q : List V → St → Prop) : List Value → Shared → Prop := fun v s' => ∃ σ' X st', Ext σ σ' ∧ VRs σ' X v ∧ InvS C σ' st' s' ∧ Q X st'
abbrev PB (C : Cx) (σ : List Addr) (Q : Bool → St → Prop) : Bool → Shared → Prop := fun b s' => ∃ σ' st', Ext σ σ' ∧ InvS C σ' st' s' ∧ Q b st'
abbrev PS (C : Cx) (σ : List Addr) (Q : Fl → St → Prop) : Flow → Shared → Prop := fun f s' => ∃ σ' F st', Ext σ σ' ∧ FR σ' F f ∧ InvS C σ' st' s' ∧ Q F st'

def EV (C : Cx) (sc : Scope) (e : Expr) (W : EW) : Prop :=
  ∀ (env : Env) (A : Around) (s : Shared) (σ : List Addr) (st : St) (Q : V → St → Prop), EnvAt C sc env → AOk C.d A → InvS C σ st s → 1 ≤ s.toks → W st Q →
    wpAny (model C.G.prog C.G.w) A (eval e env) (PV C σ Q) Bot s
def EB (C : Cx) (sc : Scope) (e : Expr) (W : BW) : Prop :=
  ∀ (env : Env) (A : Around) (s : Shared) (σ : List Addr) (st : St) (Q : Bool → St → Prop), EnvAt C sc env → AOk C.d A → InvS C σ st s → 1 ≤ s.toks → W st Q →
    wpAny (model C.G.prog C.G.w) A (isTrue e env (eval e env)) (PB C σ Q) Bot s
def ES (C : Cx) (sc : Scope) (e : Stmt) (W : SW) : Prop :=
  ∀ (env : Env) (A : Around) (s : Shared) (σ : List Addr) (st : St) (Q : Fl → St → Prop), EnvAt C sc env → AOk C.d A → InvS C σ st s → 1 ≤ s.toks → W st Q →
    wpAny (model C.G.prog C.G.w) A (exec e env) (PS C σ Q) Bot s
def EX (C : Cx) (sc : Scope) (e : List Stmt) (W : SW) : Prop :=
  ∀ (env : Env) (A : Around) (s : Shared) (σ : List Addr) (st : St) (Q : Fl → St → Prop), EnvAt C sc env → AOk C.d A → InvS C σ st s → 1 ≤ s.toks → W st Q →
    wpAny (model C.G.prog C.G.w) A (execs e env) (PS C σ Q) Bot s
/-- the items of a display or of a call -/
def EL (C : Cx) (sc : Scope) (es : List Expr) (W : LW) : Prop :=
  ∀ (env : Env) (A : Around) (s : Shared) (σ : List Addr) (st : St) (Q : List V → St → Prop) (pos : Pos), EnvAt C sc env → AOk C.d A → InvS C σ st s → 1 ≤ s.toks → W st Q →
    wpAny (model C.G.prog C.G.w) A (spliced (backTo pos (starEach es env))) (PL C σ Q) Bot s

theorem tmono {α : Type} {M : Model} {A : Around} {t : Sem α} {Q Q' : α → Shared → Prop} {E : Value → Shared → Prop} {s : Shared} (hT : 1 ≤ s.toks) (h : wpAny M A t Q Bot s) (hQ : ∀ a s', 1 ≤ s'.toks → Q a s' → Q' a s') (_ : ∀ e s', Bot e s' → E e s') :
    wpAny M A t Q' E s := wpAny_mono (wpAny_toks_of hT h) (fun a s' h => hQ a s' h.1 h.2) fun _ _ h => h.2.elim
theorem bot {e : Value} {s : Shared} {P : Prop} (h : Bot e s) : P := h.elim

/- atoms -/
def wC (X : V) : EW := fun st Q => Q X st
def wName (x : String) : EW := fun st Q => ∃ X, st.loc x = some X ∧ Q X st
def sl (x : String) : List Nat := (Str.ofString x).cps.toList

section
variable {C : Cx} {sc : Scope}

theorem EV.int {i : Int} {k : Nat} {p : Pos} : EV C sc (.Constant (.int i) k p) (wC (.int i)) := fun _ _ _ σ st _ _ _ I _ h =>
  wpAny_Constant_int ⟨σ, .int i, st, Ext.rfl', ⟨_, rfl⟩, I, h⟩
theorem EV.str {x : String} {k : Nat} {p : Pos} : EV C sc (.Constant (.str (Str.ofString x)) k p) (wC (.str (sl x))) := fun _ _ _ σ st _ _ _ I _ h =>
  wpAny_Constant_str ⟨σ, .str (sl x), st, Ext.rfl', ⟨_, by simp [sl]; rfl⟩, I, h⟩
theorem EV.bool {b : Bool} {k : Nat} {p : Pos} : EV C sc (.Constant (.bool b) k p) (wC (.bool b)) := fun _ _ _ σ st _ _ _ I _ h =>
  wpAny_Constant_bool ⟨σ, .bool b, st, Ext.rfl', rfl, I, h⟩
theorem EV.nothing {k : Nat} {p : Pos} : EV C sc (.Constant .none k p) (wC .none) := fun _ _ _ σ st _ _ _ I _ h =>
  wpAny_Constant_none ⟨σ, .none, st, Ext.rfl', rfl, I, h⟩

theorem load_name {x : String} {env : Env} {A : Around} {s : Shared} {σ : List Addr} {st : St} {X : V} {Q : Value → Shared → Prop} (he : EnvAt C sc env) (I : InvS C σ st s) (hx : st.loc x = some X)
    (hl : sc.names.lookup (Str.ofString x) = some .local) (h : ∀ v, VR σ X v → Q v s) : wpAny (model C.G.prog C.G.w) A (loadName env (Str.ofString x)) Q Bot s := by
  obtain ⟨m, F, l⟩ := I.fr
  obtain ⟨v, e1, e2⟩ := l x X hx
  exact wpAny_loadName_local (by rw [he.esc]; exact he.kind) (by unfold Env.kindOf; rw [he.esc]; exact hl) (by rw [he.loc]; exact F.ns) e1 (h v e2)

theorem EV.name {x : String} {p : Pos} (hl : sc.names.lookup (Str.ofString x) = some .local) (hd : (Str.ofString x == ("__debug__" : Str)) = false) : EV C sc (.Name (Str.ofString x) p) (wName x) := fun env A s σ st Q he _ I _ h => by
  obtain ⟨X, hX, hq⟩ := h
  exact wpAny_Name (load_name he I hX hl fun v hv => ⟨σ, X, st, Ext.rfl', hv, I, hq⟩) hd

theorem store_name {x : String} {env : Env} {A : Around} {s : Shared} {σ : List Addr} {st : St} {X : V} {v : Value} {Q : Unit → Shared → Prop} (he : EnvAt C sc env) (I : InvS C σ st s) (hv : VR σ X v)
    (hl : sc.names.lookup (Str.ofString x) = some .local) (h : ∀ s', InvS C σ (st.set x X) s' → Q () s') : wpAny (model C.G.prog C.G.w) A (storeName env (Str.ofString x) v) Q Bot s := by
  obtain ⟨m, F, l⟩ := I.fr
  refine wpAny_storeName_local (m := m) (by unfold Env.kindOf; rw [he.esc]; exact hl) (by rw [he.loc]; exact F.ns) (fun h' hn hs => ?_) ?_
  · rw [he.loc] at hn hs
    exact h _ (I.set F l hv hn hs)
  · rw [he.esc, he.kind]; rfl

/- two operands -/
def bopS (op : Operator) (x y : List Nat) : Option V := match op with
  | .Add => if x.length + y.length ≤ 16777216 then some (.str (x ++ y)) else none
  | _ => none
def bopI (op : Operator) (a b : Int) : Option V := match op with
  | .Add => some (.int (a + b))
  | .Sub => some (.int (a - b))
  | .Mod => if b = 0 then none else some (.int (Int.fmod a b))
  | .FloorDiv => if b = 0 ∨ 1073741824 ≤ a.natAbs ∨ 1073741824 ≤ b.natAbs then none else some (.int (Int.fdiv a b))
  | _ => none
def bop (op : Operator) (X Y : V) : Option V := match X with
  | .str x => (match Y with | .str y => bopS op x y | _ => none)
  | .int a => (match Y with | .int b => bopI op a b | _ => none)
  | _ => none
def wBin (op : Operator) (a b : EW) : EW := fun st Q => a st fun X st1 => b st1 fun Y st2 => ∃ Z, bop op X Y = some Z ∧ Q Z st2

theorem str_len (x : List Nat) : (⟨x.toArray⟩ : Str).length = x.length := by simp [Str.length]
theorem str_app (x y : List Nat) : (⟨x.toArray⟩ : Str) ++ ⟨y.toArray⟩ = ⟨(x ++ y).toArray⟩ := by
  show Str.append _ _ = _
  simp [Str.append]
theorem sizeLine_val : sizeLine = 16777216 := by decide

theorem binop {op : Operator} {X Y Z : V} {x y : Value} {σ : List Addr} {A : Around} {s : Shared} {Q : Value → Shared → Prop} (hx : VR σ X x) (hy : VR σ Y y) (h : bop op X Y = some Z)
    (k : ∀ z tk, VR σ Z z → Q z { s with toks := tk }) : wpAny (model C.G.prog C.G.w) A (binaryOp op x y) Q Bot s := by
  cases X with
  | str x =>
    cases Y with
    | str y =>
      obtain ⟨t, rfl⟩ := hx; obtain ⟨u, rfl⟩ := hy
      have hop : op = .Add := by cases op <;> first | rfl | cases h
      subst hop
      have h : (if x.length + y.length ≤ 16777216 then some (V.str (x ++ y)) else none) = some Z := h
      split at h
      · rename_i hl
        cases h
        refine add_str (fun t' tk => k _ _ ⟨t', by rw [str_app]⟩) ?_
        rw [str_len, str_len, sizeLine_val]; exact hl
      · cases h
    | none => cases h
    | bool _ => cases h
    | int _ => cases h
    | ref _ => cases h
  | int a =>
    cases Y with
    | int b =>
      obtain ⟨t, rfl⟩ := hx; obtain ⟨u, rfl⟩ := hy
      have h : bopI op a b = some Z := h
      cases op with
      | Add => cases h; exact add_int (k _ _ ⟨_, rfl⟩)
      | Sub => cases h; exact sub_int (k _ _ ⟨_, rfl⟩)
      | Mod =>
        have h : (if b = 0 then none else some (V.int (Int.fmod a b))) = some Z := h
        split at h
        · cases h
        · rename_i hb
          cases h
          exact mod_int' hb (k _ _ ⟨_, rfl⟩)
      | FloorDiv =>
        have h : (if b = 0 ∨ 1073741824 ≤ a.natAbs ∨ 1073741824 ≤ b.natAbs then none else some (V.int (Int.fdiv a b))) = some Z := h
        split at h
        · cases h
        · rename_i hb
          cases h
          exact floordiv_int (by omega) (k _ _ ⟨_, rfl⟩) (Or.inl (PyProof.noPylong_small (by omega)))
      | _ => cases h
    | none => cases h
    | bool _ => cases h
    | str _ => cases h
    | ref _ => cases h
  | none => cases h
  | bool _ => cases h
  | ref _ => cases h
theorem EV.bin {op : Operator} {l r : Expr} {p : Pos} {a b : EW} (hl : EV C sc l a) (hr : EV C sc r b) : EV C sc (.BinOp l op r p) (wBin op a b) := fun env A s σ st Q he hA I hT h => by
  refine wpAny_BinOp (tmono hT (hl env A s σ st _ he hA I hT h) (fun x s1 t1 h1 => ?_) fun _ _ e => e)
  obtain ⟨σ1, X, st1, e1, hX, I1, h1⟩ := h1
  refine tmono t1 (hr env A s1 σ1 st1 _ he hA I1 t1 h1) (fun y s2 t2 h2 => ?_) fun _ _ e => e
  obtain ⟨σ2, Y, st2, e2, hY, I2, Z, hZ, h2⟩ := h2
  exact binop (hX.ext e2) hY hZ fun z tk hz => ⟨σ2, Z, st2, e1.trans e2, hz, I2, h2⟩

/- comparisons -/
def copS (op : CmpOp) (x y : List Nat) : Option Bool := match op with
  | .Eq => some (x == y)
  | .LtE => some (!decide (y < x))
  | .Gt => some (decide (y < x))
  | _ => none
def copI (op : CmpOp) (a b : Int) : Option Bool := match op with
  | .Eq => some (a == b)
  | .Lt => some (decide (a < b))
  | .Gt => some (decide (a > b))
  | .GtE => some (decide (a ≥ b))
  | .LtE => some (decide (a ≤ b))
  | _ => none
def copR (op : CmpOp) (r : Bool) : Option Bool := match op with
  | .Is => some r
  | .IsNot => some (!r)
  | _ => none
def copN (op : CmpOp) (r : Bool) : Option Bool := match op with
  | .Is => some r
  | _ => none
def cop (op : CmpOp) (X Y : V) : Option Bool := match X with
  | .str x => (match Y with | .str y => copS op x y | .none => copN op false | .ref _ => copR op false | _ => none)
  | .int a => (match Y with | .int b => copI op a b | _ => none)
  | .none => (match Y with | .none => copN op true | _ => none)
  | .ref j => (match Y with | .ref k => copR op (j == k) | _ => none)
  | _ => none
def wCmp (op : CmpOp) (a b : EW) : EW := fun st Q => a st fun X st1 => b st1 fun Y st2 => ∃ r, cop op X Y = some r ∧ Q (.bool r) st2
def bCmp (op : CmpOp) (a b : EW) : BW := fun st Q => a st fun X st1 => b st1 fun Y st2 => ∃ r, cop op X Y = some r ∧ Q r st2

theorem str_beq (x y : List Nat) : ((⟨x.toArray⟩ : Str) == ⟨y.toArray⟩) = (x == y) := by
  by_cases h : x = y
  · subst h; simp
  · have h2 : (⟨x.toArray⟩ : Str) ≠ ⟨y.toArray⟩ := fun e => h (by injection e with e; simpa using e)
    have e1 : (x == y) = false := by simpa using h
    rw [e1]; simpa using h2

theorem not_tuple {σ : List Addr} {o : O} {ob : Obj} (h : OR σ o ob) (hc : ob.cls = .type "tuple") : ∀ xs n, ob.data ≠ .seq xs n := by
  cases o with
  | list xs => obtain ⟨vs, n, rfl, _⟩ := h; simp at hc
  | arg xs => rw [h.1] at hc; simp at hc
  | obj => rw [h] at hc; simp at hc
  | app k => obtain ⟨a, _, rfl⟩ := h; simp at hc
  | cell X =>
    cases X with
    | none => intro xs n q; have : ob.data = .cell none := h; rw [this] at q; cases q
    | some X => obtain ⟨v, h1, _⟩ := h; intro xs n q; rw [h1] at q; cases q

theorem isSame_refs {σ : List Addr} {st : St} {A : Around} {s : Shared} {j k : Nat} {x y : Addr} {Q : Bool → Shared → Prop} (I : InvS C σ st s) (hx : σ[j]? = some x) (hy : σ[k]? = some y) (h : Q (j == k) s) :
    wpAny (model C.G.prog C.G.w) A (isSame (.ref x) (.ref y)) Q Bot s := by
  have hj : j < st.sto.length := by rw [← I.len]; exact (List.getElem?_eq_some_iff.mp hx).1
  have hk : k < st.sto.length := by rw [← I.len]; exact (List.getElem?_eq_some_iff.mp hy).1
  obtain ⟨a, oa, e1, e2, e3⟩ := I.obj j _ (List.getElem?_eq_getElem hj)
  obtain ⟨b, ob, f1, f2, f3⟩ := I.obj k _ (List.getElem?_eq_getElem hk)
  rw [hx] at e1; cases e1
  rw [hy] at f1; cases f1
  unfold isSame
  by_cases hxy : x = y
  · subst hxy
    have : j = k := (List.getElem?_inj (List.getElem?_eq_some_iff.mp hx).1 I.nd).mp (hx.trans hy.symm)
    subst this
    simp only [beq_self_eq_true, if_true] at h ⊢
    exact wpAny_pure h
  · have hjk : (j == k) = false := by
      simp only [beq_eq_false_iff_ne, ne_eq]
      intro q; subst q; rw [hx] at hy; cases hy; exact hxy rfl
    rw [hjk] at h
    have hb : (x == y) = false := by simpa using hxy
    simp only [hb, Bool.false_eq_true, if_false]
    refine wpAny_bind (wpAny_load e2 (wpAny_bind (wpAny_load f2 ?_)))
    have t1 := not_tuple e3
    have t2 := not_tuple f3
    split
    · rename_i c1 c2 d1 d2; exact absurd d1 (t1 c1 _ _)
    · exact wpAny_pure h

theorem cmpop {op : CmpOp} {X Y : V} {r : Bool} {x y : Value} {σ : List Addr} {st : St} {A : Around} {s : Shared} {Q : Value → Shared → Prop} (I : InvS C σ st s) (hx : VR σ X x) (hy : VR σ Y y) (h : cop op X Y = some r)
    (k : Q (.bool r) s) : wpAny (model C.G.prog C.G.w) A (compareOp op x y) Q Bot s := by
  cases X with
  | str x =>
    obtain ⟨t, rfl⟩ := hx
    cases Y with
    | str y =>
      obtain ⟨u, rfl⟩ := hy
      have h : copS op x y = some r := h
      cases op with
      | Eq => cases h; exact eq_str (by rw [str_beq]; exact k)
      | LtE => cases h; exact P.le_str (by simpa using k)
      | Gt => cases h; exact P.gt_str (by simpa using k)
      | _ => cases h
    | none =>
      cases hy
      have h : copN op false = some r := h
      cases op with
      | Is => cases h; exact is_str_none k
      | _ => cases h
    | ref j =>
      obtain ⟨u, _, rfl⟩ := hy
      have h : copR op false = some r := h
      cases op with
      | Is => cases h; exact wpAny_is_plain rfl k
      | IsNot => cases h; exact wpAny_isNot_plain rfl k
      | _ => cases h
    | int _ => cases h
    | bool _ => cases h
  | int a =>
    obtain ⟨t, rfl⟩ := hx
    cases Y with
    | int b =>
      obtain ⟨u, rfl⟩ := hy
      have h : copI op a b = some r := h
      cases op with
      | Eq => cases h; exact eq_int k
      | Lt => cases h; exact P.lt_int k
      | Gt => cases h; exact P.gt_int k
      | GtE => cases h; exact P.ge_int k
      | LtE => cases h; exact P.le_int k
      | _ => cases h
    | none => cases h
    | bool _ => cases h
    | str _ => cases h
    | ref _ => cases h
  | none =>
    cases hx
    cases Y with
    | none =>
      cases hy
      have h : copN op true = some r := h
      cases op with
      | Is => cases h; exact is_none_none k
      | _ => cases h
    | int _ => cases h
    | bool _ => cases h
    | str _ => cases h
    | ref _ => cases h
  | ref j =>
    obtain ⟨t, ht, rfl⟩ := hx
    cases Y with
    | ref i =>
      obtain ⟨u, hu, rfl⟩ := hy
      have h : copR op (j == i) = some r := h
      cases op with
      | Is => cases h; exact wpAny_bind (isSame_refs I ht hu (wpAny_pure k))
      | IsNot => cases h; exact wpAny_bind (isSame_refs I ht hu (wpAny_pure k))
      | _ => cases h
    | none => cases h
    | int _ => cases h
    | bool _ => cases h
    | str _ => cases h
  | bool _ => cases h
theorem EB.cmp {op : CmpOp} {l r : Expr} {p : Pos} {a b : EW} (hl : EV C sc l a) (hr : EV C sc r b) (hm : behindInMarks op r = false) : EB C sc (.Compare l [op] [r] p) (bCmp op a b) := fun env A s σ st Q he hA I hT h => by
  refine wpAny_isTrue_Compare1 (tmono hT (hl env A s σ st _ he hA I hT h) (fun x s1 t1 h1 => ?_) fun _ _ e => e) hm
  obtain ⟨σ1, X, st1, e1, hX, I1, h1⟩ := h1
  refine tmono t1 (hr env A s1 σ1 st1 _ he hA I1 t1 h1) (fun y s2 t2 h2 => ?_) fun _ _ e => e
  obtain ⟨σ2, Y, st2, e2, hY, I2, r, hr', h2⟩ := h2
  exact cmpop I2 (hX.ext e2) hY hr' (wpAny_truthy_bool ⟨σ2, st2, e1.trans e2, I2, h2⟩)

/- truth -/
def tru (st : St) : V → Option Bool
  | .bool b => some b
  | .str x => if x.length < 2 ^ 60 then some (decide (x ≠ [])) else none
  | .ref k => match st.sto[k]? with
    | some (.list xs) => if xs.length < 2 ^ 60 then some (decide (xs ≠ [])) else none
    | _ => none
  | _ => none
def bVal (a : EW) : BW := fun st Q => a st fun X st1 => ∃ r, tru st1 X = some r ∧ Q r st1
theorem nil_dec {α : Type} (x : List α) : decide (x ≠ []) = ((x.length : Int) != 0) := by
  cases x with
  | nil => rfl
  | cons a r =>
    have h : ((a :: r).length : Int) ≠ 0 := by rw [List.length_cons]; omega
    have h2 : (((a :: r).length : Int) != 0) = true := by simpa using h
    rw [h2]; simp
theorem truth {X : V} {r : Bool} {x : Value} {σ : List Addr} {st : St} {A : Around} {s : Shared} {Q : Bool → Shared → Prop} (I : InvS C σ st s) (hx : VR σ X x) (h : tru st X = some r)
    (k : ∀ tk, Q r { s with toks := tk }) : wpAny (model C.G.prog C.G.w) A (truthy x) Q Bot s := by
  unfold tru at h
  split at h
  · cases hx; cases h; exact wpAny_truthy_bool (k _)
  · obtain ⟨t, rfl⟩ := hx
    split at h
    · rename_i hl
      cases h
      refine P.truthy_str (by rw [str_len]; omega) ?_
      have := k (s.toks + 1 + 1)
      rw [nil_dec] at this
      rw [str_len]; exact this
    · cases h
  · obtain ⟨a, ha, rfl⟩ := hx
    split at h
    · rename_i xs hxs
      split at h
      · rename_i hl
        cases h
        obtain ⟨a', ob, e1, e2, vs, n, rfl, hv⟩ := I.obj _ _ hxs
        rw [ha] at e1; cases e1
        have hlen := hv.len
        refine wpAny_truthy_list (items := vs.toArray) ⟨_, e2, rfl, n, rfl⟩ (by simp; omega) ?_
        have := k (s.toks + 1 + 1)
        have e : decide (xs ≠ []) = !vs.toArray.isEmpty := by
          cases xs <;> cases vs <;> simp_all
        rw [e] at this; exact this
      · cases h
    · cases h
  · cases h
theorem EB.val {e : Expr} {a : EW} (hl : EV C sc e a) (hp : ∀ env, isTrue e env (eval e env) = (do let v ← eval e env; standAt e.pos; holding [v] (truthy v))) : EB C sc e (bVal a) := fun env A s σ st Q he hA I hT h => by
  rw [hp]
  refine wpAny_bind (tmono hT (hl env A s σ st _ he hA I hT h) (fun x s1 t1 h1 => ?_) fun _ _ e => e)
  obtain ⟨σ1, X, st1, e1, hX, I1, r, hr, h1⟩ := h1
  exact wpAny_bind (wpAny_standAt (wpAny_holding (truth I1 hX hr fun tk => ⟨σ1, st1, e1, I1, h1⟩)))
def bNot (b : BW) : BW := fun st Q => b st fun r st1 => Q (!r) st1
theorem EB.not {e : Expr} {p : Pos} {b : BW} (hl : EB C sc e b) : EB C sc (.UnaryOp .Not e p) (bNot b) := fun env A s σ st Q he hA I hT h =>
  wpAny_isTrue_Not (wpAny_mono (hl env A s σ st _ he hA I hT h) (fun _ _ h1 => h1) fun _ _ e => e)
def bAnd (a b : BW) : BW := fun st Q => a st fun r st1 => match r with | true => b st1 Q | false => Q false st1
def bOr (a b : BW) : BW := fun st Q => a st fun r st1 => match r with | true => Q true st1 | false => b st1 Q
theorem EB.and {x y : Expr} {p : Pos} {a b : BW} (hx : EB C sc x a) (hy : EB C sc y b) : EB C sc (.BoolOp .And [x, y] p) (bAnd a b) := fun env A s σ st Q he hA I hT h => by
  refine wpAny_isTrue_BoolOp (wpAny_allTrue_And_cons (tmono hT (hx env A s σ st _ he hA I hT h) (fun r s1 t1 h1 => ?_) fun _ _ e => e))
  obtain ⟨σ1, st1, e1, I1, h1⟩ := h1
  cases r with
  | false => simp only [Bool.false_eq_true, if_false]; exact ⟨σ1, st1, e1, I1, h1⟩
  | true =>
    simp only [if_true] at h1 ⊢
    refine wpAny_allTrue_And_cons (tmono t1 (hy env A s1 σ1 st1 _ he hA I1 t1 h1) (fun r s2 t2 h2 => ?_) fun _ _ e => e)
    obtain ⟨σ2, st2, e2, I2, h2⟩ := h2
    cases r with
    | false => simp only [Bool.false_eq_true, if_false]; exact ⟨σ2, st2, e1.trans e2, I2, h2⟩
    | true => exact wpAny_allTrue_And_nil ⟨σ2, st2, e1.trans e2, I2, h2⟩
theorem EB.or {x y : Expr} {p : Pos} {a b : BW} (hx : EB C sc x a) (hy : EB C sc y b) : EB C sc (.BoolOp .Or [x, y] p) (bOr a b) := fun env A s σ st Q he hA I hT h => by
  refine wpAny_isTrue_BoolOp (wpAny_allTrue_Or_cons (tmono hT (hx env A s σ st _ he hA I hT h) (fun r s1 t1 h1 => ?_) fun _ _ e => e))
  obtain ⟨σ1, st1, e1, I1, h1⟩ := h1
  cases r with
  | true => simp only [if_true]; exact ⟨σ1, st1, e1, I1, h1⟩
  | false =>
    simp only [Bool.false_eq_true, if_false] at h1 ⊢
    refine wpAny_allTrue_Or_cons (tmono t1 (hy env A s1 σ1 st1 _ he hA I1 t1 h1) (fun r s2 t2 h2 => ?_) fun _ _ e => e)
    obtain ⟨σ2, st2, e2, I2, h2⟩ := h2
    cases r with
    | true => simp only [if_true]; exact ⟨σ2, st2, e1.trans e2, I2, h2⟩
    | false => exact wpAny_allTrue_Or_nil ⟨σ2, st2, e1.trans e2, I2, h2⟩
def wIte (t : BW) (a b : EW) : EW := fun st Q => t st fun r st1 => match r with | true => a st1 Q | false => b st1 Q
theorem EV.ite {t x y : Expr} {p : Pos} {b : BW} {a c : EW} (ht : EB C sc t b) (hx : EV C sc x a) (hy : EV C sc y c) : EV C sc (.IfExp t x y p) (wIte b a c) := fun env A s σ st Q he hA I hT h => by
  refine IfExp_ (tmono hT (ht env A s σ st _ he hA I hT h) (fun r s1 t1 h1 => ?_) fun _ _ e => e)
  obtain ⟨σ1, st1, e1, I1, h1⟩ := h1
  cases r with
  | true => simpa using tmono t1 (hx env A s1 σ1 st1 _ he hA I1 t1 h1) (fun v s2 t2 ⟨σ2, X, st2, e2, r⟩ => (⟨σ2, X, st2, e1.trans e2, r⟩ : PV C σ Q v s2)) fun _ _ e => e
  | false => simpa using tmono t1 (hy env A s1 σ1 st1 _ he hA I1 t1 h1) (fun v s2 t2 ⟨σ2, X, st2, e2, r⟩ => (⟨σ2, X, st2, e1.trans e2, r⟩ : PV C σ Q v s2)) fun _ _ e => e
end
def clipLo (lo : Option Int) (n : Nat) : Nat := match lo with
  | none => 0
  | some i => (max 0 (min (if i < 0 then i + n else i) n)).toNat
def clipHi (hi : Option Int) (n : Nat) : Nat := match hi with
  | none => n
  | some i => (max 0 (min (if i < 0 then i + n else i) n)).toNat
def psl {α : Type} (lo hi : Option Int) (x : List α) : List α := (x.drop (clipLo lo x.length)).take (clipHi hi x.length - clipLo lo x.length)

theorem psl_str (x : List Nat) (lo hi : Option Int) : (Builtin.Str.strSliceIndices lo hi 1 x.length).filterMap ((x.toArray : Array Nat)[·]?) = psl lo hi x := by
  have e : Builtin.Str.strSliceIndices lo hi 1 x.length = sliceRange (clipLo lo x.length : Nat) (clipHi hi x.length : Nat) 1 := by
    unfold Builtin.Str.strSliceIndices clipLo clipHi
    cases lo <;> cases hi <;> simp <;> (try (congr 1 <;> omega))
  rw [e, sliceRange_one, pick_run]
  rfl
theorem psl_list (xs : List Value) (lo hi : Option Int) : slicePick xs.toArray lo hi none = (psl lo hi xs).toArray := by
  have e : sliceBounds lo hi none xs.toArray.size = (((clipLo lo xs.length : Nat) : Int), ((clipHi hi xs.length : Nat) : Int), 1) := by
    unfold sliceBounds clipLo clipHi
    cases lo <;> cases hi <;> simp <;> (try omega) <;> (try (constructor <;> omega))
  unfold slicePick
  rw [e]
  simp only [sliceRange_one, pick_run]
  rfl
theorem psl_len {α : Type} (lo hi : Option Int) (x : List α) : (psl lo hi x).length ≤ x.length := by
  unfold psl; simp; omega
theorem VRs.psl {σ : List Addr} {Xs : List V} {vs : List Value} (lo hi : Option Int) (h : VRs σ Xs vs) : VRs σ (psl lo hi Xs) (Mine.psl lo hi vs) := by
  unfold Mine.psl
  rw [h.len]
  exact (h.drop _).take _

abbrev PW := St → (Option Int → St → Prop) → Prop
def PR : Option Int → Value → Prop
  | none, v => v = .none
  | some i, v => ∃ t, v = .int i t
def EP (C : Cx) (sc : Scope) (e : Option Expr) (W : PW) : Prop :=
  ∀ (env : Env) (A : Around) (s : Shared) (σ : List Addr) (st : St) (Q : Option Int → St → Prop), EnvAt C sc env → AOk C.d A → InvS C σ st s → 1 ≤ s.toks → W st Q →
    wpAny (model C.G.prog C.G.w) A (evalPart e env) (fun v s' => ∃ σ' X st', Ext σ σ' ∧ PR X v ∧ InvS C σ' st' s' ∧ Q X st') Bot s
def pNone : PW := fun st Q => Q none st
def pSome (a : EW) : PW := fun st Q => a st fun X st1 => ∃ i, X = .int i ∧ Q (some i) st1
def slc (X : V) (l u : Option Int) (st : St) (Q : V → St → Prop) : Prop := match X with
  | .str x => x.length ≤ 16777216 ∧ Q (.str (psl l u x)) st
  | .ref k => match st.sto[k]? with
    | some (.list xs) => xs.length ≤ 16777216 ∧ Q (.ref st.sto.length) (st.push (.list (psl l u xs)))
    | some (.arg xs) => xs.length ≤ 16777216 ∧ Q (.ref st.sto.length) (st.push (.list (psl l u xs)))
    | _ => False
  | _ => False
def wSlice (a : EW) (lo hi : PW) : EW := fun st Q => a st fun X st1 => lo st1 fun l st2 => hi st2 fun u st3 => slc X l u st3 Q

section
variable {C : Cx} {sc : Scope}
theorem EP.no : EP C sc none pNone := fun _ _ _ σ st _ _ _ I _ h => wpAny_evalPart_none ⟨σ, none, st, Ext.rfl', rfl, I, h⟩
theorem EP.so {e : Expr} {a : EW} (he : EV C sc e a) : EP C sc (some e) (pSome a) := fun env A s σ st Q hn hA I hT h => by
  refine wpAny_evalPart_some (tmono hT (he env A s σ st _ hn hA I hT h) (fun v s1 t1 h1 => ?_) fun _ _ e => e)
  obtain ⟨σ1, X, st1, e1, hX, I1, i, rfl, h1⟩ := h1
  exact ⟨σ1, some i, st1, e1, hX, I1, h1⟩

theorem partOf {l : Option Int} {v : Value} (h : PR l v) : ∃ p : Option (Int × Tok), v = partValue p ∧ p.map (·.1) = l := by
  cases l with
  | none => exact ⟨none, h, rfl⟩
  | some i => obtain ⟨t, rfl⟩ := h; exact ⟨some (i, t), rfl, rfl⟩
theorem isPart {l : Option Int} {v : Value} (h : PR l v) : IsPart v l := by
  cases l with
  | none => cases h; exact .none
  | some i => obtain ⟨t, rfl⟩ := h; exact .int i t

theorem Inv.newList {σ : List Addr} {st : St} {h : Heap} {g : Array GenState} {os : OsState} (I : Inv C σ st h g os) {Xs : List V} {vs : List Value} (hv : VRs σ Xs vs) :
    Inv C (σ ++ [h.objs.size]) (st.push (.list Xs)) (h.push { cls := .type "list", data := .seq vs.toArray }) g os :=
  I.newObj (fun _ _ e => Heap.get?_push_of_some _ e) (Nat.le_refl _) (Heap.get?_push_size _ rfl) ⟨vs, 0, rfl, hv.ext (Ext.app _ _)⟩
theorem Inv.newRef {σ : List Addr} {st : St} {h : Heap} {g : Array GenState} {os : OsState} (I : Inv C σ st h g os) (a : Addr) : VR (σ ++ [a]) (.ref st.sto.length) (.ref a) :=
  ⟨a, by rw [← I.len]; simp, rfl⟩

theorem EV.slice {e : Expr} {lo hi : Option Expr} {p pos : Pos} {a : EW} {l u : PW} (he : EV C sc e a) (hl : EP C sc lo l) (hh : EP C sc hi u) : EV C sc (.Subscript e (.Slice lo hi none p) pos) (wSlice a l u) := fun env A s σ st Q hn hA I hT h => by
  refine Subscript_ (tmono hT (he env A s σ st _ hn hA I hT h) (fun v s1 t1 h1 => ?_) fun _ _ e => e)
  obtain ⟨σ1, X, st1, e1, hX, I1, h1⟩ := h1
  refine wpAny_Slice (tmono t1 (hl env A s1 σ1 st1 _ hn hA I1 t1 h1) (fun v2 s2 t2 h2 => ?_) fun _ _ e => e)
  obtain ⟨σ2, L, st2, e2, hL, I2, h2⟩ := h2
  refine tmono t2 (hh env A s2 σ2 st2 _ hn hA I2 t2 h2) (fun v3 s3 t3 h3 => ?_) fun _ _ e => e
  obtain ⟨σ3, U, st3, e3, hU, I3, h3⟩ := h3
  rw [evalPart_none]
  refine wpAny_pure ?_
  have I4 := I3.heapPush { cls := .type "slice", data := .fields #[v2, v3, .none] }
  have hX3 := hX.ext (e2.trans e3)
  have e13 := e1.trans (e2.trans e3)
  have hs : ∀ o i, subscripted (.Slice lo hi none p) false o i = operate [i, o] (getItem o i) := fun o i => rfl
  unfold slc at h3
  split at h3
  · obtain ⟨t, rfl⟩ := hX3
    obtain ⟨hlen, h3⟩ := h3
    obtain ⟨pl, rfl, rfl⟩ := partOf hL
    obtain ⟨pu, rfl, rfl⟩ := partOf hU
    refine tail_any (typeIs_str _ _ t) F.slot_str_getitem.lookup (wpAny_getItem_str_slice (l := pl) (u := pu) (st := none) ⟨_, Heap.get?_push_size _ rfl, rfl, rfl⟩ rfl ?_) (hs _ _)
    unfold sliceMade slicePicked
    rename_i x
    have hlen' : (⟨x.toArray⟩ : Str).length = x.length := str_len x
    have hps : (Builtin.Str.strSliceIndices (pl.map (·.1)) (pu.map (·.1)) 1 x.length).filterMap ((x.toArray : Array Nat)[·]?) = psl (pl.map (·.1)) (pu.map (·.1)) x := psl_str x _ _
    have hle := psl_len (pl.map (·.1)) (pu.map (·.1)) x
    simp only [hlen', Option.map_none, Option.getD_none, beq_self_eq_true, Bool.true_and]
    split
    · rename_i hw
      have hw' : (Builtin.Str.strSliceIndices (pl.map (·.1)) (pu.map (·.1)) 1 x.length).length = x.length := by simpa using hw
      have hx : psl (pl.map (·.1)) (pu.map (·.1)) x = x := by
        have e : Builtin.Str.strSliceIndices (pl.map (·.1)) (pu.map (·.1)) 1 x.length = sliceRange (clipLo (pl.map (·.1)) x.length : Nat) (clipHi (pu.map (·.1)) x.length : Nat) 1 := by
          unfold Builtin.Str.strSliceIndices clipLo clipHi
          cases (pl.map (·.1)) <;> cases (pu.map (·.1)) <;> simp <;> (try (congr 1 <;> omega))
        rw [e, sliceRange_one] at hw'
        simp at hw'
        have : clipHi (pu.map (·.1)) x.length ≤ x.length := by
          unfold clipHi; split <;> omega
        have : clipLo (pl.map (·.1)) x.length ≤ x.length := by
          unfold clipLo; split <;> omega
        unfold psl
        have h0 : clipLo (pl.map (·.1)) x.length = 0 := by omega
        rw [h0, List.drop_zero, List.take_of_length_le (by omega)]
      rw [hx] at h3
      exact ⟨σ3, .str x, st3, e13, ⟨t, rfl⟩, I4, h3⟩
    · refine ⟨?_, ?_⟩
      · rw [hps, str_len, sizeLine_val]; omega
      · rw [hps]
        exact ⟨σ3, .str (psl (pl.map (·.1)) (pu.map (·.1)) x), st3, e13, ⟨_, rfl⟩, I4, h3⟩
  · obtain ⟨b, hb, rfl⟩ := hX3
    have go : ∀ (xs : List V) (vs : List Value) (o : Obj) (n : Nat), s3.heap.get? b = some o → o.cls = .type "list" → o.data = .seq vs.toArray n → VRs σ3 xs vs → xs.length ≤ 16777216 → Q (.ref st3.sto.length) (st3.push (.list (psl L U xs))) →
        wpAny (model C.G.prog C.G.w) A (subscriptTail e (.Slice lo hi none p) (.ref b) (.ref s3.heap.objs.size)) (PV C σ Q) Bot { s3 with heap := s3.heap.push { cls := .type "slice", data := .fields #[v2, v3, .none] } } := by
      intro xs vs o n ho hc hd hv hlen h3
      have hL' : (s3.heap.push { cls := .type "slice", data := .fields #[v2, v3, .none] }).IsList b vs.toArray := ⟨o, Heap.get?_push_of_some _ ho, hc, n, hd⟩
      refine tail_any hL'.typeIs slot_list_getitem.lookup (wpAny_getItem_list_slice hL' (Heap.IsSliceOf.new ..) (isPart hL) (isPart hU) .none (by simp) ?_ (by rw [sizeLine_val]; simp; rw [hv.len]; exact hlen)) (hs _ _)
      rw [psl_list]
      exact ⟨σ3 ++ [_], _, _, e13.trans (Ext.app _ _), I4.newRef _, I4.newList (hv.psl L U), h3⟩
    split at h3
    · rename_i xs hxs
      obtain ⟨a', ob, f1, f2, vs, n, rfl, hv⟩ := I3.obj _ _ hxs
      rw [hb] at f1; cases f1
      exact go xs vs _ n f2 rfl rfl hv h3.1 h3.2
    · rename_i xs hxs
      obtain ⟨a', ob, f1, f2, hc, vs, n, hd, hv⟩ := I3.obj _ _ hxs
      rw [hb] at f1; cases f1
      exact go xs vs _ n f2 hc hd hv h3.1 h3.2
    · exact h3.elim
  · exact h3.elim

/- one item -/
def pix (i : Int) (n : Nat) : Option Nat := if 0 ≤ i ∧ i < n then some i.toNat else if i < 0 ∧ -(n : Int) ≤ i then some (i + n).toNat else none
def itm (st : St) (X : V) (i : Int) : Option V := match X with
  | .str x => if x.length ≤ 16777216 then (pix i x.length).bind fun j => x[j]?.map fun c => .str [c] else none
  | .ref k => match st.sto[k]? with
    | some (.list xs) => if xs.length ≤ 16777216 then (pix i xs.length).bind fun j => xs[j]? else none
    | _ => none
  | _ => none
def wItem (a b : EW) : EW := fun st Q => a st fun X st1 => b st1 fun Y st2 => ∃ i Z, Y = .int i ∧ itm st2 X i = some Z ∧ Q Z st2
theorem pix_seq {i : Int} {n j : Nat} (h : pix i n = some j) : seqIndex? i n = some j := by
  unfold pix at h; unfold seqIndex?
  split at h
  · cases h
    rename_i q
    have : ¬ i < 0 := by omega
    simp [this, q.1, q.2]
  · split at h
    · cases h
      rename_i q1 q
      simp [q.1]; omega
    · cases h
theorem pix_lt {i : Int} {n j : Nat} (h : pix i n = some j) : j < n ∧ -(n : Int) ≤ i ∧ i < n ∧ ((0 ≤ i ∧ j = i.toNat) ∨ (i < 0 ∧ j = (i + n).toNat)) := by
  unfold pix at h
  split at h
  · cases h; omega
  · split at h
    · cases h; omega
    · cases h
theorem item_any {X Z : V} {x : Value} {i : Int} {u : Tok} {σ : List Addr} {st : St} {A : Around} {s : Shared} {Q : Value → Shared → Prop} (I : InvS C σ st s) (hx : VR σ X x) (h : itm st X i = some Z)
    (k : ∀ z tk, VR σ Z z → Q z { s with toks := tk }) : wpAny (model C.G.prog C.G.w) A (getItem x (.int i u)) Q Bot s := by
  unfold itm at h
  split at h
  · obtain ⟨t, rfl⟩ := hx
    split at h
    · rename_i x hlen
      cases hp : pix i x.length with
      | none => rw [hp] at h; cases h
      | some j =>
        rw [hp] at h
        cases hc : x[j]? with
        | none => simp [hc] at h
        | some c =>
          simp [hc] at h
          subst h
          have hj := pix_lt hp
          refine P.getItem_str (c := c) ?_ ?_ (k _ _ ⟨_, rfl⟩)
          · simp; omega
          · rw [str_len, pix_seq hp]; simpa using hc
    · cases h
  · obtain ⟨a, ha, rfl⟩ := hx
    split at h
    · rename_i xs hxs
      split at h
      · rename_i hlen
        obtain ⟨a', ob, f1, f2, vs, n, rfl, hv⟩ := I.obj _ _ hxs
        rw [ha] at f1; cases f1
        cases hp : pix i xs.length with
        | none => rw [hp] at h; cases h
        | some j =>
          rw [hp] at h
          have hj := pix_lt hp
          obtain ⟨v, hv1, hv2⟩ := hv.get j Z (by simpa using h)
          have hl : s.heap.IsList a vs.toArray := ⟨_, f2, rfl, n, rfl⟩
          have hsz : vs.toArray.size = xs.length := by simp [hv.len]
          rcases hj.2.2.2 with ⟨h0, rfl⟩ | ⟨h0, rfl⟩
          · exact wpAny_getItem_list hl h0 (by omega) (by simpa using hv1) (k v _ hv2)
          · exact wpAny_getItem_list_neg hl h0 (by rw [hsz]; omega) (by omega) (by rw [hsz]; simpa using hv1) (k v _ hv2)
      · cases h
    · cases h
  · cases h
theorem EV.item {e i : Expr} {pos : Pos} {a b : EW} (he : EV C sc e a) (hi : EV C sc i b) (hs : ∀ o j, subscripted i false o j = operate [o, j] (getItem o j)) : EV C sc (.Subscript e i pos) (wItem a b) := fun env A s σ st Q hn hA I hT h => by
  refine Subscript_ (tmono hT (he env A s σ st _ hn hA I hT h) (fun v s1 t1 h1 => ?_) fun _ _ e => e)
  obtain ⟨σ1, X, st1, e1, hX, I1, h1⟩ := h1
  refine tmono t1 (hi env A s1 σ1 st1 _ hn hA I1 t1 h1) (fun v2 s2 t2 h2 => ?_) fun _ _ e => e
  obtain ⟨σ2, Y, st2, e2, hY, I2, j, Z, rfl, hZ, h2⟩ := h2
  obtain ⟨u, rfl⟩ := hY
  have hX2 := hX.ext e2
  have g := item_any (A := A) (u := u) (Q := PV C σ Q) I2 hX2 hZ fun z tk hz => ⟨σ2, Z, st2, e1.trans e2, hz, I2, h2⟩
  cases X with
  | str x => obtain ⟨t, rfl⟩ := hX2; exact tail_any (typeIs_str _ _ t) F.slot_str_getitem.lookup g (hs _ _)
  | ref k =>
    obtain ⟨b, hb, rfl⟩ := hX2
    unfold itm at hZ
    simp only at hZ
    split at hZ
    · rename_i xs hxs
      obtain ⟨a', ob, f1, f2, vs, n, rfl, hv⟩ := I2.obj _ _ hxs
      rw [hb] at f1; cases f1
      exact tail_any ⟨_, f2, rfl⟩ slot_list_getitem.lookup g (hs _ _)
    · cases hZ
  | none => cases hZ
  | bool b => cases hZ
  | int i => cases hZ

/- displays -/
def lNil : LW := fun st Q => Q [] st
def lCons (a : EW) (b : LW) : LW := fun st Q => a st fun X st1 => b st1 fun Xs st2 => Q (X :: Xs) st2
theorem EL.nil : EL C sc [] lNil := fun _ _ _ σ st _ _ _ _ I _ h => wpAny_items_nil ⟨σ, [], st, Ext.rfl', rfl, I, h⟩
theorem EL.cons {e : Expr} {r : List Expr} {a : EW} {b : LW} (he : EV C sc e a) (hr : EL C sc r b) (hst : ∀ env, starEach (e :: r) env = (false, eval e env) :: starEach r env) : EL C sc (e :: r) (lCons a b) := fun env A s σ st Q pos hn hA I hT h => by
  refine wpAny_items_cons (tmono hT (he env A s σ st _ hn hA I hT h) (fun v s1 t1 h1 => ?_) fun _ _ e => e) (hst env)
  obtain ⟨σ1, X, st1, e1, hX, I1, h1⟩ := h1
  refine tmono t1 (hr env A s1 σ1 st1 _ pos hn hA I1 t1 h1) (fun vs s2 t2 h2 => ?_) fun _ _ e => e
  obtain ⟨σ2, Xs, st2, e2, hXs, I2, h2⟩ := h2
  exact ⟨σ2, X :: Xs, st2, e1.trans e2, ⟨v, vs, rfl, hX.ext e2, hXs⟩, I2, h2⟩
def wList (b : LW) : EW := fun st Q => b st fun Xs st1 => Xs.length ≤ 16777216 ∧ Q (.ref st1.sto.length) (st1.push (.list Xs))
theorem EV.list {es : List Expr} {pos : Pos} {b : LW} (h : EL C sc es b) : EV C sc (.List es pos) (wList b) := fun env A s σ st Q hn hA I hT hq => by
  refine wpAny_List (tmono hT (h env A s σ st _ pos hn hA I hT hq) (fun vs s1 t1 h1 => ?_) fun _ _ e => e)
  obtain ⟨σ1, Xs, st1, e1, hXs, I1, hlen, h1⟩ := h1
  exact ⟨by rw [hXs.len, sizeLine_val]; exact hlen, σ1 ++ [_], _, _, e1.trans (Ext.app _ _), I1.newRef _, I1.newList hXs, h1⟩

/- f-strings of three parts -/
def wF3 (x : String) (a : EW) (y : String) : EW := fun st Q => a st fun X st1 => ∃ z, X = .str z ∧ (sl x).length + z.length + (sl y).length ≤ 16777216 ∧ Q (.str (sl x ++ (z ++ sl y))) st1
theorem str_emp (x : Str) : Str.empty ++ x = x := by
  show Str.append _ _ = _
  simp [Str.append, Str.empty]
theorem str_appL (x : Str) (y : List Nat) : x ++ ⟨y.toArray⟩ = ⟨(x.cps.toList ++ y).toArray⟩ := by
  show Str.append _ _ = _
  simp [Str.append]
theorem tot3 (x y : String) (z : List Nat) : Str.ofString x ++ ⟨z.toArray⟩ ++ Str.ofString y = ⟨(sl x ++ (z ++ sl y)).toArray⟩ := by
  show Str.append (Str.append _ _) _ = _
  simp [Str.append, sl]
theorem EV.fstr3 {x y : String} {v : Expr} {k k2 : Nat} {p1 p2 p3 p4 : Pos} {a : EW} (hv : EV C sc v a) (hlx : (sl x).length ≤ 16777216) :
    EV C sc (.JoinedStr [.Constant (.str (Str.ofString x)) k p1, .FormattedValue v (-1) none p2, .Constant (.str (Str.ofString y)) k2 p3] p4) (wF3 x a y) := fun env A s σ st Q hn hA I hT h => by
  refine JoinedStr_many ?_
  show wpAny _ _ (joinParts Str.empty [eval (.Constant (.str (Str.ofString x)) k p1) env, eval (.FormattedValue v (-1) none p2) env, eval (.Constant (.str (Str.ofString y)) k2 p3) env]) _ _ _
  refine joinParts_cons (wpAny_Constant_str ?_)
  have I1 : InvS C σ st { s with toks := s.toks + 1 } := I
  show (Str.empty ++ Str.ofString x).length ≤ sizeLine ∧ _
  rw [str_emp]
  have run := FormattedValue_plain (pos := p2) (E := Bot) (Q := fun w s1 => ∃ z t σ1 st1, w = .str ⟨z.toArray⟩ t ∧ Ext σ σ1 ∧ InvS C σ1 st1 s1 ∧ (sl x).length + z.length + (sl y).length ≤ 16777216 ∧ Q (.str (sl x ++ (z ++ sl y))) st1)
    (wpAny_mono (hv env A _ σ st _ hn hA I1 (Nat.le_add_left 1 _) h) (fun w s1 h1 => by
      obtain ⟨σ1, X, st1, e1, hX, I1, z, rfl, hl, h1⟩ := h1
      obtain ⟨t, rfl⟩ := hX
      exact formatField_str (fun t' tk => ⟨z, t', σ1, st1, rfl, e1, I1, hl, h1⟩) (by rw [str_len, sizeLine_val]; omega)) fun _ _ e => e)
  have hx : (Str.ofString x).length = (sl x).length := by simp [sl, Str.length]
  refine ⟨by rw [hx, sizeLine_val]; exact hlx, joinParts_cons (wpAny_mono run (fun w s1 h1 => ?_) fun _ _ e => e)⟩
  obtain ⟨z, t, σ1, st1, rfl, e1, I1, hl, h1⟩ := h1
  refine ⟨?_, joinParts_cons (wpAny_Constant_str ⟨?_, joinParts_nil ?_ ?_⟩)⟩
  · rw [str_appL, str_len, sizeLine_val]; simp [sl] at hl ⊢; omega
  · rw [tot3, str_len, sizeLine_val]; simp at hl ⊢; omega
  · exact ⟨σ1, .str (sl x ++ (z ++ sl y)), st1, e1, ⟨_, by rw [tot3]⟩, I1, h1⟩
  · rw [tot3, str_len, sizeLine_val]; simp at hl ⊢; omega
end
section
variable {C : Cx} {sc : Scope}

theorem falso {α : Type} {M : Model} {A : Around} {t : Sem α} {Q : α → Shared → Prop} {E : Value → Shared → Prop} {s : Shared} (h : wpAny M A t Q Bot s) : wpAny M A t Q E s := wpAny_mono h (fun _ _ x => x) fun _ _ x => x.elim

/- sequences -/
def sNil : SW := fun st Q => Q .next st
def sCons (a b : SW) : SW := fun st Q => a st fun fl st1 => match fl with
  | .next => b st1 Q
  | fl => Q fl st1
theorem EX.nil : EX C sc [] sNil := fun _ _ _ σ st _ _ _ I _ h => wpAny_execs_nil ⟨σ, .next, st, Ext.rfl', rfl, I, h⟩
theorem EX.cons {e : Stmt} {r : List Stmt} {a b : SW} (he : ES C sc e a) (hr : EX C sc r b) : EX C sc (e :: r) (sCons a b) := fun env A s σ st Q hn hA I hT h => by
  refine wpAny_execs_cons (tmono hT (he env A s σ st _ hn hA I hT h) (fun f s1 t1 h1 => ?_) fun _ _ e => e)
  obtain ⟨σ1, F, st1, e1, hF, I1, h1⟩ := h1
  cases F with
  | next => cases hF; exact tmono t1 (hr env A s1 σ1 st1 _ hn hA I1 t1 h1) (fun f s2 t2 ⟨σ2, F2, st2, e2, r⟩ => ⟨σ2, F2, st2, e1.trans e2, r⟩) fun _ _ e => e
  | brk => cases hF; exact ⟨σ1, .brk, st1, e1, rfl, I1, h1⟩
  | cont => cases hF; exact ⟨σ1, .cont, st1, e1, rfl, I1, h1⟩
  | ret X => obtain ⟨v, rfl, hv⟩ := hF; exact ⟨σ1, .ret X, st1, e1, ⟨v, rfl, hv⟩, I1, h1⟩

def sRet (a : EW) : SW := fun st Q => a st fun X st1 => Q (.ret X) st1
theorem ES.ret {e : Expr} {p : Pos} {a : EW} (he : EV C sc e a) : ES C sc (.Return (some e) p) (sRet a) := fun env A s σ st Q hn hA I hT h => by
  refine wpAny_Return_some (tmono hT (he env A s σ st _ hn hA I hT h) (fun v s1 t1 h1 => ?_) fun _ _ e => e)
  obtain ⟨σ1, X, st1, e1, hX, I1, h1⟩ := h1
  exact ⟨σ1, .ret X, st1, e1, ⟨v, rfl, hX⟩, I1, h1⟩
def sFl (f : Fl) : SW := fun st Q => Q f st
theorem ES.brk {p : Pos} : ES C sc (.Break p) (sFl .brk) := fun _ _ _ σ st _ _ _ I _ h => wpAny_Break ⟨σ, .brk, st, Ext.rfl', rfl, I, h⟩
theorem ES.cont {p : Pos} : ES C sc (.Continue p) (sFl .cont) := fun _ _ _ σ st _ _ _ I _ h => wpAny_Continue ⟨σ, .cont, st, Ext.rfl', rfl, I, h⟩
def sExpr (a : EW) : SW := fun st Q => a st fun X st1 => X = .none ∧ Q .next st1
theorem ES.expr {e : Expr} {p : Pos} {a : EW} (he : EV C sc e a) (hi : ∀ env, EnvAt C sc env → interactive env = false) (hs : ∀ env, swapsWith e none p.line env = pure false) : ES C sc (.Expr e p) (sExpr a) := fun env A s σ st Q hn hA I hT h => by
  refine wpAny_Expr (tmono hT (he env A s σ st _ hn hA I hT h) (fun v s1 t1 h1 => ?_) fun _ _ e => e) (hi env hn) (hs env)
  obtain ⟨σ1, X, st1, e1, hX, I1, rfl, h1⟩ := h1
  cases hX
  exact ⟨σ1, .next, st1, e1, rfl, I1, h1⟩
theorem notInteractive {env : Env} (hn : EnvAt C sc env) : interactive env = false := by
  unfold interactive; rw [hn.esc, hn.kind]; rfl
def sIf (t : BW) (a b : SW) : SW := fun st Q => t st fun r st1 => match r with | true => a st1 Q | false => b st1 Q
theorem ES.ite {t : Expr} {x y : List Stmt} {p : Pos} {b : BW} {a c : SW} (ht : EB C sc t b) (hx : EX C sc x a) (hy : EX C sc y c) : ES C sc (.If t x y p) (sIf b a c) := fun env A s σ st Q hn hA I hT h => by
  refine wpAny_If (tmono hT (ht env A s σ st _ hn hA I hT h) (fun r s1 t1 h1 => ?_) fun _ _ e => e)
  obtain ⟨σ1, st1, e1, I1, h1⟩ := h1
  cases r with
  | true => simp only [if_true]; exact tmono t1 (hx env A s1 σ1 st1 _ hn hA I1 t1 h1) (fun f s2 t2 ⟨σ2, F2, st2, e2, r⟩ => ⟨σ2, F2, st2, e1.trans e2, r⟩) fun _ _ e => e
  | false => simp only [Bool.false_eq_true, if_false]; exact tmono t1 (hy env A s1 σ1 st1 _ hn hA I1 t1 h1) (fun f s2 t2 ⟨σ2, F2, st2, e2, r⟩ => ⟨σ2, F2, st2, e1.trans e2, r⟩) fun _ _ e => e
def sAssert (t : BW) : SW := fun st Q => t st fun r st1 => r = true ∧ Q .next st1
theorem ES.assert {t : Expr} {m : Option Expr} {p : Pos} {b : BW} (ht : EB C sc t b) : ES C sc (.Assert t m p) (sAssert b) := fun env A s σ st Q hn hA I hT h => by
  refine wpAny_Assert_holds (tmono hT (ht env A s σ st _ hn hA I hT h) (fun r s1 t1 h1 => ?_) fun _ _ e => e)
  obtain ⟨σ1, st1, e1, I1, hr, h1⟩ := h1
  exact ⟨hr, σ1, .next, st1, e1, rfl, I1, h1⟩

/- stores -/
def sAssign (x : String) (a : EW) : SW := fun st Q => a st fun X st1 => Q .next (st1.set x X)
theorem ES.assign {x : String} {p p' : Pos} {e : Expr} {a : EW} (he : EV C sc e a) (hl : sc.names.lookup (Str.ofString x) = some .local) (hs : ∀ env, swapsWith e (some (.Name (Str.ofString x) p')) p.line env = pure false) :
    ES C sc (.Assign [.Name (Str.ofString x) p'] e p) (sAssign x a) := fun env A s σ st Q hn hA I hT h => by
  refine wpAny_Assign_Name (tmono hT (he env A s σ st _ hn hA I hT h) (fun v s1 t1 h1 => ?_) fun _ _ e => e) (hs env)
  obtain ⟨σ1, X, st1, e1, hX, I1, h1⟩ := h1
  exact store_name hn I1 hX hl fun s2 I2 => ⟨σ1, .next, _, e1, rfl, I2, h1⟩
def sAssign2 (x y : String) (a : EW) : SW := fun st Q => a st fun X st1 => Q .next ((st1.set x X).set y X)
theorem ES.assign2 {x y : String} {p p1 p2 : Pos} {e : Expr} {a : EW} (he : EV C sc e a) (hx : sc.names.lookup (Str.ofString x) = some .local) (hy : sc.names.lookup (Str.ofString y) = some .local)
    (hs : ∀ env, swappedStores [.Name (Str.ofString x) p1, .Name (Str.ofString y) p2] e env = pure none) :
    ES C sc (.Assign [.Name (Str.ofString x) p1, .Name (Str.ofString y) p2] e p) (sAssign2 x y a) := fun env A s σ st Q hn hA I hT h => by
  refine wpAny_Assign_two (tmono hT (he env A s σ st _ hn hA I hT h) (fun v s1 t1 h1 => ?_) fun _ _ e => e) rfl (hs env)
  obtain ⟨σ1, X, st1, e1, hX, I1, h1⟩ := h1
  refine wpAny_assign_Name (store_name hn I1 hX hx fun s2 I2 => wpAny_assign_Name (store_name hn I2 hX hy fun s3 I3 => ⟨σ1, .next, _, e1, rfl, I3, h1⟩))
def sPair (x y : String) (a b : EW) : SW := fun st Q => a st fun X st1 => b st1 fun Y st2 => Q .next ((st2.set y Y).set x X)
theorem ES.pair {x y : String} {p p1 p2 p3 p4 : Pos} {k k2 : Nat} {e f : Expr} {a b : EW} (he : EV C sc e a) (hf : EV C sc f b) (hx : sc.names.lookup (Str.ofString x) = some .local) (hy : sc.names.lookup (Str.ofString y) = some .local)
    (hf1 : ∀ env, starEach (e :: [f]) env = (false, eval e env) :: starEach [f] env) (hf2 : ∀ env, starEach (f :: []) env = (false, eval f env) :: starEach [] env)
    (hs : ∀ env, EnvAt C sc env → swappedStores [.Tuple [.Name (Str.ofString x) p1, .Name (Str.ofString y) p2] k p3] (.Tuple [e, f] k2 p4) env = pure (some [Str.ofString x, Str.ofString y])) :
    ES C sc (.Assign [.Tuple [.Name (Str.ofString x) p1, .Name (Str.ofString y) p2] k p3] (.Tuple [e, f] k2 p4) p) (sPair x y a b) := fun env A s σ st Q hn hA I hT h => by
  refine Assign_Tuple_swapped (wpAny_Tuple ?_) rfl (hs env hn)
  refine wpAny_items_cons (tmono hT (he env A s σ st _ hn hA I hT h) (fun v s1 t1 h1 => ?_) fun _ _ e => e) (hf1 env)
  obtain ⟨σ1, X, st1, e1, hX, I1, h1⟩ := h1
  refine wpAny_items_cons (tmono t1 (hf env A s1 σ1 st1 _ hn hA I1 t1 h1) (fun v2 s2 t2 h2 => ?_) fun _ _ e => e) (hf2 env)
  obtain ⟨σ2, Y, st2, e2, hY, I2, h2⟩ := h2
  refine wpAny_items_nil ⟨by rw [sizeLine_val]; simp, ?_⟩
  have ht : (s2.heap.push { cls := .type "tuple", data := .seq #[v, v2] }).IsTuple s2.heap.objs.size #[v, v2] := ⟨_, Heap.get?_push_size _ rfl, rfl, 0, rfl⟩
  have I3 := I2.heapPush { cls := .type "tuple", data := .seq #[v, v2] }
  show wpAny _ A (unpackItems (.ref s2.heap.objs.size) (#[v, v2] : Array Value).size none) _ _ _
  refine wpAny_unpackItems_tuple hA.1 ht fun h' hk => ?_
  have I4 : InvS C σ2 st2 { s2 with heap := h' } := I2.keeps fun b o e => hk b o (Nat.ne_of_lt (Heap.lt_size (Heap.get?_push_of_some { cls := .type "tuple", data := .seq #[v, v2] } e))) (Heap.get?_push_of_some _ e)
  show wpAny _ A (do holding [v] (bindName env (Str.ofString y) v2); assignInOrder [fun w => bindName env (Str.ofString x) w] [v]) _ _ _
  refine wpAny_bind (wpAny_holding (wpAny_bindName (store_name hn I4 hY hy fun s5 I5 => ?_)))
  show wpAny _ A (do holding [] (bindName env (Str.ofString x) v); assignInOrder [] []) _ _ _
  exact wpAny_bind (wpAny_holding (wpAny_bindName (store_name hn I5 (hX.ext e2) hx fun s6 I6 => wpAny_pure ⟨σ2, .next, _, e1.trans e2, rfl, I6, h2⟩)))

def iop : Operator → V → V → Option V
  | .Add, .str x, .str y => if x.length + y.length ≤ 16777216 then some (.str (x ++ y)) else none
  | .Add, .int a, .int b => some (.int (a + b))
  | _, _, _ => none
theorem inplace {op : Operator} {X Y Z : V} {x y : Value} {σ : List Addr} {A : Around} {s : Shared} {Q : Value → Shared → Prop} (hx : VR σ X x) (hy : VR σ Y y) (h : iop op X Y = some Z)
    (k : ∀ z tk, VR σ Z z → Q z { s with toks := tk }) : wpAny (model C.G.prog C.G.w) A (inplaceOp op x y) Q Bot s := by
  unfold iop at h
  split at h
  · obtain ⟨t, rfl⟩ := hx; obtain ⟨u, rfl⟩ := hy
    split at h
    · rename_i hl
      cases h
      refine SBL.iadd (fun t' tk _ => k _ _ ⟨t', by rw [str_app]⟩) ?_
      rw [str_len, str_len, sizeLine_val]; exact hl
    · cases h
  · obtain ⟨t, rfl⟩ := hx; obtain ⟨u, rfl⟩ := hy
    cases h
    exact P.iadd_int (k _ _ ⟨_, rfl⟩)
  · cases h
def sAug (x : String) (op : Operator) (a : EW) : SW := fun st Q => ∃ X, st.loc x = some X ∧ a st fun Y st1 => ∃ Z, iop op X Y = some Z ∧ Q .next (st1.set x Z)
theorem ES.aug {x : String} {op : Operator} {p p' : Pos} {e : Expr} {a : EW} (he : EV C sc e a) (hl : sc.names.lookup (Str.ofString x) = some .local) : ES C sc (.AugAssign (.Name (Str.ofString x) p') op e p) (sAug x op a) := fun env A s σ st Q hn hA I hT h => by
  obtain ⟨X, hX, h⟩ := h
  refine wpAny_AugAssign_Name (load_name hn I hX hl fun v hv => tmono hT (he env A s σ st _ hn hA I hT h) (fun v2 s1 t1 h1 => ?_) fun _ _ e => e)
  obtain ⟨σ1, Y, st1, e1, hY, I1, Z, hZ, h1⟩ := h1
  exact inplace (hv.ext e1) hY hZ fun z tk hz => store_name hn (s := { s1 with toks := tk }) I1 hz hl fun s2 I2 => ⟨σ1, .next, _, e1, rfl, I2, h1⟩

/-- xs[i] = X -/
def setAt (st : St) (Y : V) (i : Int) (X : V) (Q : St → Prop) : Prop := match Y with
  | .ref k => match st.sto[k]? with
    | some (.list xs) => xs.length ≤ 16777216 ∧ st.nb ≤ k ∧ ∃ j, pix i xs.length = some j ∧ Q (st.upd k (.list (xs.set j X)))
    | _ => False
  | _ => False
theorem set_any {X Y : V} {x y : Value} {i : Int} {u : Tok} {σ : List Addr} {st : St} {A : Around} {s : Shared} {R : St → Prop} {Q : Unit → Shared → Prop} (I : InvS C σ st s) (hx : VR σ X x) (hy : VR σ Y y) (h : setAt st Y i X R)
    (k : ∀ s' st', InvS C σ st' s' → R st' → Q () s') : wpAny (model C.G.prog C.G.w) A (setItem y (.int i u) x) Q Bot s := by
  unfold setAt at h
  split at h
  · obtain ⟨a, ha, rfl⟩ := hy
    split at h
    · rename_i j xs hxs
      obtain ⟨hlen, hnb, j, hj, hr⟩ := h
      obtain ⟨a', ob, f1, f2, vs, n, rfl, hv⟩ := I.obj _ _ hxs
      rw [ha] at f1; cases f1
      have hp := pix_lt hj
      have hsz : vs.toArray.size = xs.length := by simp [hv.len]
      have fin : ∀ (f : Array Value → Array Value), f vs.toArray = (vs.set j x).toArray → Q () { s with heap := s.heap.update a (Obj.mapSeq f) } := by
        intro f hf
        refine k _ _ (I.updObj (ob' := Obj.mapSeq f { cls := .type "list", data := .seq vs.toArray n }) ha hnb f2 (by simp) (Heap.SameBut.update ..) (Heap.get?_update_self _ f2 rfl) ?_) hr
        exact ⟨vs.set j x, (if ((vs.set j x).toArray.size == vs.toArray.size) = true then n else n + 1), by simp only [Obj.mapSeq, hf], hv.set j hx⟩
      rcases hp.2.2.2 with ⟨h0, rfl⟩ | ⟨h0, rfl⟩
      · exact ki_setAt (n := n) f2 h0 (by omega) (by rw [hsz]; omega) (fin _ (by simp))
      · exact ki_setBack (n := n) f2 h0 (by rw [hsz]; omega) (by omega) (fin _ (by rw [hsz]; simp))
    · exact h.elim
  · exact h.elim
def sSetItem (a o i : EW) : SW := fun st Q => a st fun X st1 => o st1 fun Y st2 => i st2 fun J st3 => ∃ j, J = .int j ∧ setAt st3 Y j X fun st4 => Q .next st4
theorem ES.setItem {e o i : Expr} {p p' : Pos} {a b c : EW} (he : EV C sc e a) (ho : EV C sc o b) (hi : EV C sc i c) (hs : ∀ env, swapsWith e (some (.Subscript o i p')) p.line env = pure false) :
    ES C sc (.Assign [.Subscript o i p'] e p) (sSetItem a b c) := fun env A s σ st Q hn hA I hT h => by
  refine wpAny_Assign_Subscript (tmono hT (he env A s σ st _ hn hA I hT h) (fun v s1 t1 h1 => ?_) fun _ _ e => e) (hs env)
  obtain ⟨σ1, X, st1, e1, hX, I1, h1⟩ := h1
  refine tmono t1 (ho env A s1 σ1 st1 _ hn hA I1 t1 h1) (fun v2 s2 t2 h2 => ?_) fun _ _ e => e
  obtain ⟨σ2, Y, st2, e2, hY, I2, h2⟩ := h2
  refine tmono t2 (hi env A s2 σ2 st2 _ hn hA I2 t2 h2) (fun v3 s3 t3 h3 => ?_) fun _ _ e => e
  obtain ⟨σ3, J, st3, e3, hJ, I3, j, rfl, h3⟩ := h3
  obtain ⟨u, rfl⟩ := hJ
  exact set_any I3 (hX.ext (e2.trans e3)) (hY.ext e3) h3 fun s4 st4 I4 h4 => ⟨σ3, .next, st4, e1.trans (e2.trans e3), rfl, I4, h4⟩
/-- xs[i] += e -/
def sAugItem (o i : EW) (op : Operator) (a : EW) : SW := fun st Q => o st fun Y st1 => i st1 fun J st2 => ∃ j X, J = .int j ∧ itm st2 Y j = some X ∧ a st2 fun Z st3 => ∃ R, iop op X Z = some R ∧ setAt st3 Y j R fun st4 => Q .next st4
theorem ES.augItem {e o i : Expr} {op : Operator} {p p' : Pos} {a b c : EW} (he : EV C sc e a) (ho : EV C sc o b) (hi : EV C sc i c)
    (hs : ∀ ov iv new, augStore i ov iv new = (do holding [new, ov, iv] (PySem.setItem ov iv new); release [new, ov, iv] []; pure .next)) :
    ES C sc (.AugAssign (.Subscript o i p') op e p) (sAugItem b c op a) := fun env A s σ st Q hn hA I hT h => by
  refine wpAny_AugAssign_SubscriptAny (tmono hT (ho env A s σ st _ hn hA I hT h) (fun v s1 t1 h1 => ?_) fun _ _ e => e) hs
  obtain ⟨σ1, Y, st1, e1, hY, I1, h1⟩ := h1
  refine tmono t1 (hi env A s1 σ1 st1 _ hn hA I1 t1 h1) (fun v2 s2 t2 h2 => ?_) fun _ _ e => e
  obtain ⟨σ2, J, st2, e2, hJ, I2, j, X, rfl, hX, h2⟩ := h2
  obtain ⟨u, rfl⟩ := hJ
  refine tmono t2 (item_any (Q := fun z s3 => ∃ tk, s3 = { s2 with toks := tk } ∧ VR σ2 X z) I2 (hY.ext e2) hX fun z tk hz => ⟨tk, rfl, hz⟩) (fun z s2' t2' hh => ?_) fun _ _ e => e
  obtain ⟨tk, rfl, hz⟩ := hh
  refine tmono t2' (he env A { s2 with toks := tk } σ2 st2 _ hn hA I2 t2' h2) (fun v3 s3 t3 h3 => ?_) fun _ _ e => e
  obtain ⟨σ3, Z, st3, e3, hZ, I3, R, hR, h3⟩ := h3
  refine inplace (hz.ext e3) hZ hR fun z4 tk4 hz4 => ?_
  exact set_any (s := { s3 with toks := tk4 }) I3 hz4 (hY.ext (e2.trans e3)) h3 fun s4 st4 I4 h4 => ⟨σ3, .next, st4, e1.trans (e2.trans e3), rfl, I4, h4⟩
/-- del xs[i] -/
def sDel (o i : EW) : SW := fun st Q => o st fun Y st1 => i st1 fun J st2 => ∃ k xs j n, Y = .ref k ∧ J = .int j ∧ st2.sto[k]? = some (.list xs) ∧ xs.length ≤ 16777216 ∧ st2.nb ≤ k ∧ pix j xs.length = some n ∧ Q .next (st2.upd k (.list (xs.eraseIdx n)))
theorem ES.del {o i : Expr} {p p' : Pos} {b c : EW} (ho : EV C sc o b) (hi : EV C sc i c) : ES C sc (.Delete [.Subscript o i p'] p) (sDel b c) := fun env A s σ st Q hn hA I hT h => by
  refine wpAny_Delete (wpAny_deleteEach_cons (wpAny_delete_Subscript (tmono hT (ho env A s σ st _ hn hA I hT h) (fun v s1 t1 h1 => ?_) fun _ _ e => e)))
  obtain ⟨σ1, Y, st1, e1, hY, I1, h1⟩ := h1
  refine tmono t1 (hi env A s1 σ1 st1 _ hn hA I1 t1 h1) (fun v2 s2 t2 h2 => ?_) fun _ _ e => e
  obtain ⟨σ2, J, st2, e2, hJ, I2, k, xs, j, n, rfl, rfl, hxs, hlen, hnb, hp, h2⟩ := h2
  obtain ⟨u, rfl⟩ := hJ
  obtain ⟨a, ha, rfl⟩ := hY.ext e2
  obtain ⟨a', ob, f1, f2, vs, m, rfl, hv⟩ := I2.obj _ _ hxs
  rw [ha] at f1; cases f1
  have hq := pix_lt hp
  have hsz : vs.toArray.size = xs.length := by simp [hv.len]
  refine wpAny_delItem_plain (items := vs.toArray) ⟨m, f2⟩ (k := n) ?_ (by rw [hsz]; exact pix_seq hp) (fun h' hl hs => ?_) (by rw [hsz, sizeLine_val]; exact hlen)
  · unfold Builtin.List.listFitsIndex; simp; omega
  · obtain ⟨m', hl⟩ := hl
    refine wpAny_deleteEach_nil ⟨σ2, .next, _, e1.trans e2, rfl, I2.updObj (o := .list (xs.eraseIdx n)) ha hnb f2 (by simp) hs hl ⟨vs.eraseIdx n, m', ?_, hv.erase n⟩, h2⟩
    have : (vs.toArray.eraseIdxIfInBounds n) = (vs.eraseIdx n).toArray := by simp
    rw [this]

/- while -/
def sWhile (t : BW) (body : SW) : SW := fun st Q => ∃ J : Nat → St → Prop, (∃ n, J n st) ∧ ∀ n st, J n st → t st fun r st1 => match r with
  | true => body st1 fun fl st2 => match fl with
    | .next => ∃ m, m < n ∧ J m st2
    | .cont => ∃ m, m < n ∧ J m st2
    | .brk => Q .next st2
    | .ret X => Q (.ret X) st2
  | false => Q .next st1
theorem ES.while {t : Expr} {body : List Stmt} {p : Pos} {b : BW} {a : SW} (ht : EB C sc t b) (hb : EX C sc body a) : ES C sc (.While t body [] p) (sWhile b a) := fun env A s σ st Q hn hA I hT h => by
  obtain ⟨J, ⟨n, hJ⟩, hst⟩ := h
  refine wpAny_While (codeAny_whileLoop (fun n s' => ∃ σ' st', Ext σ σ' ∧ InvS C σ' st' s' ∧ 1 ≤ s'.toks ∧ J n st') ?_ n ⟨σ, st, Ext.rfl', I, hT, hJ⟩)
  rintro n s1 ⟨σ1, st1, e1, I1, t1, hJ1⟩
  refine falso (tmono t1 (ht env A s1 σ1 st1 _ hn hA I1 t1 (hst n st1 hJ1)) (fun r s2 t2 h2 => ?_) fun _ _ e => e)
  obtain ⟨σ2, st2, e2, I2, h2⟩ := h2
  cases r with
  | false =>
    simp only [Bool.false_eq_true, if_false]
    exact wpAny_execs_nil ⟨σ2, .next, st2, e1.trans e2, rfl, I2, h2⟩
  | true =>
    simp only [if_true]
    refine falso (tmono t2 (hb env A s2 σ2 st2 _ hn hA I2 t2 h2) (fun f s3 t3 h3 => ?_) fun _ _ e => e)
    obtain ⟨σ3, F, st3, e3, hF, I3, h3⟩ := h3
    cases F with
    | next => cases hF; obtain ⟨m, hm, h3⟩ := h3; exact ⟨m, hm, σ3, st3, e1.trans (e2.trans e3), I3, t3, h3⟩
    | cont => cases hF; obtain ⟨m, hm, h3⟩ := h3; exact ⟨m, hm, σ3, st3, e1.trans (e2.trans e3), I3, t3, h3⟩
    | brk => cases hF; exact ⟨σ3, .next, st3, e1.trans (e2.trans e3), rfl, I3, h3⟩
    | ret X => obtain ⟨v, rfl, hv⟩ := hF; exact ⟨σ3, .ret X, st3, e1.trans (e2.trans e3), ⟨v, rfl, hv⟩, I3, h3⟩
end
def forW (cond : St → Prop) (x : String) (body : SW) : List V → SW
  | [] => fun st Q => cond st ∧ Q .next st
  | X :: r => fun st Q => cond st ∧ body (st.set x X) fun fl st1 => match fl with
    | .next => forW cond x body r st1 Q
    | .cont => forW cond x body r st1 Q
    | .brk => Q .next st1
    | .ret V => Q (.ret V) st1

structure Prot (C : Cx) (A : Around) (σ0 : List Addr) (I : Addr) (Xs : List V) (cond : St → Prop) (R : Nat → Obj → Prop) : Prop where
  next : ∀ (i : Nat) (σ : List Addr) (st : St) (s : Shared) (X : V) (Q : Option Value → Shared → Prop), Ext σ0 σ → (∃ o, s.heap.get? I = some o ∧ R i o) → InvS C σ st s → cond st → Xs[i]? = some X →
    (∀ v h' tk, VR σ X v → (∃ o, h'.get? I = some o ∧ R (i + 1) o) → Heap.ExtBut I s.heap h' → Q (some v) { s with heap := h', toks := tk }) → wpAny (model C.G.prog C.G.w) A (pyNext (.ref I)) Q Bot s
  done : ∀ (σ : List Addr) (st : St) (s : Shared) (Q : Option Value → Shared → Prop), Ext σ0 σ → (∃ o, s.heap.get? I = some o ∧ R Xs.length o) → InvS C σ st s → cond st →
    (∀ h' tk, Heap.ExtBut I s.heap h' → Q none { s with heap := h', toks := tk }) → wpAny (model C.G.prog C.G.w) A (pyNext (.ref I)) Q Bot s
  cls : ∀ i o, R i o → o.cls ≠ .type "code"

def Fresh (C : Cx) (σ : List Addr) (I : Addr) : Prop := I ∉ σ ∧ I ≠ C.L ∧ I ≠ C.G.P ∧ C.base.get? I = none ∧ ∀ p ∈ C.pins, p.1 ≠ I

section
variable {C : Cx} {sc : Scope}

theorem Inv.fresh {σ : List Addr} {st : St} {h : Heap} {g : Array GenState} {os : OsState} (I : Inv C σ st h g os) {a : Addr} (ha : @LE.le Nat _ h.objs.size a) : Fresh C σ a := by
  obtain ⟨m, F, _⟩ := I.fr
  have hL : @LT.lt Nat _ C.L h.objs.size := F.ns.lt
  refine ⟨fun q => absurd (I.mem_lt q) (Nat.not_lt.mpr ha), Nat.ne_of_gt (Nat.lt_of_lt_of_le hL ha), Nat.ne_of_gt (Nat.lt_trans I.P_lt (Nat.lt_of_lt_of_le hL ha)), ?_, fun p hp q => ?_⟩
  · cases q : C.base.get? a with
    | none => rfl
    | some o => exact absurd (Heap.lt_size (F.keep _ _ q)) (Nat.not_lt.mpr ha)
  · have := Heap.lt_size (I.pin p hp).1
    rw [q] at this; exact absurd this (Nat.not_lt.mpr ha)

theorem for_loop {A : Around} {env : Env} {x : String} {px : Pos} {body : List Stmt} {b : SW} {I : Addr} {Xs : List V} {cond : St → Prop} {R : Nat → Obj → Prop} {s : Shared} {σ : List Addr} {st : St} {Q : Fl → St → Prop}
    (P : Prot C A σ I Xs cond R) (hn : EnvAt C sc env) (hA : AOk C.d A) (hx : sc.names.lookup (Str.ofString x) = some .local) (hb : ∀ o, EX (C.pin I o) sc body b)
    (hI : InvS C σ st s) (hT : 1 ≤ s.toks) (hf : Fresh C σ I) (ho : ∃ o, s.heap.get? I = some o ∧ R 0 o) (h : forW cond x b Xs st Q) {Q' : Flow → Shared → Prop} (hQ : ∀ fl f s' σ' st', Ext σ σ' → FR σ' fl f → InvS C σ' st' s' → Q fl st' → Q' f s') :
    codeAny (model C.G.prog C.G.w) A (.forLoop (.Name (Str.ofString x) px) (.ref I) body [] env) (fun r s' => match r with | .ok f => Q' f s' | .error e => cameBackBy (model C.G.prog C.G.w) A env Bot e s') s := by
  refine codeAny_forLoop_any (fun n s' => ∃ σ' st' i, Ext σ σ' ∧ InvS C σ' st' s' ∧ 1 ≤ s'.toks ∧ (∃ o, s'.heap.get? I = some o ∧ R i o) ∧ Fresh C σ' I ∧ i ≤ Xs.length ∧ Xs.length - i = n ∧ forW cond x b (Xs.drop i) st' Q) ?_ Xs.length
    ⟨σ, st, 0, Ext.rfl', hI, hT, ho, hf, Nat.zero_le _, rfl, by simpa using h⟩
  rintro n s1 ⟨σ1, st1, i, e1, I1, t1, ho1, hf1, hi, hni, h1⟩
  by_cases hlt : i < Xs.length
  · have hX : Xs[i]? = some Xs[i] := List.getElem?_eq_getElem hlt
    have hd : Xs.drop i = Xs[i] :: Xs.drop (i + 1) := List.drop_eq_getElem_cons hlt
    rw [hd] at h1
    obtain ⟨hc, h1⟩ := h1
    obtain ⟨o1, ho1a, ho1b⟩ := ho1
    refine falso (tmono t1 (P.next i σ1 st1 s1 _ (fun r s2 => ∃ v h2 tk, r = some v ∧ s2 = { s1 with heap := h2, toks := tk } ∧ VR σ1 Xs[i] v ∧ (∃ o, h2.get? I = some o ∧ R (i + 1) o) ∧ Heap.ExtBut I s1.heap h2) e1 ⟨o1, ho1a, ho1b⟩ I1 hc hX fun v h2 tk hv ho2 hk2 => ⟨v, h2, tk, rfl, rfl, hv, ho2, hk2⟩) (fun r s2 t2 h2 => ?_) fun _ _ e => e)
    obtain ⟨v, h2, tk, rfl, rfl, hv, ho2, hk2⟩ := h2
    refine wpAny_pure ?_
    have I2 : InvS C σ1 st1 { s1 with heap := h2, toks := tk } := I1.apart hk2 hf1.1 hf1.2.1 hf1.2.2.1 hf1.2.2.2.1 hf1.2.2.2.2 ho1a (.inl (P.cls _ _ ho1b))
    obtain ⟨o2, ho2a, ho2b⟩ := ho2
    have I3 : InvS (C.pin I o2) σ1 st1 { s1 with heap := h2, toks := tk } := I2.pinOn ho2a hf1.1 hf1.2.1 hf1.2.2.1
    have hn' : EnvAt (C.pin I o2) sc env := ⟨hn.esc, hn.loc, hn.glob, hn.blt, hn.kind, hn.code, hn.qual, hn.cells⟩
    refine wpAny_assign_Name (falso (tmono t2 (store_name (C := C.pin I o2) (Q := fun _ s4 => InvS (C.pin I o2) σ1 (st1.set x Xs[i]) s4) hn' I3 hv hx fun s4 I4 => I4) (fun _ s4 t4 I4 => ?_) fun _ _ e => e))
    refine falso (tmono t4 (hb o2 env A s4 σ1 _ _ hn' hA I4 t4 h1) (fun f s5 t5 h5 => ?_) fun _ _ e => e)
    obtain ⟨σ5, F, st5, e5, hF, I5, h5⟩ := h5
    obtain ⟨I6, g1, g2, g3, g4⟩ := I5.pinOff
    have hf6 : Fresh C σ5 I := ⟨g2, g3, g4, hf1.2.2.2⟩
    cases F with
    | next => cases hF; exact ⟨Xs.length - (i + 1), by omega, σ5, st5, i + 1, e1.trans e5, I6, t5, ⟨o2, g1, ho2b⟩, hf6, by omega, rfl, h5⟩
    | cont => cases hF; exact ⟨Xs.length - (i + 1), by omega, σ5, st5, i + 1, e1.trans e5, I6, t5, ⟨o2, g1, ho2b⟩, hf6, by omega, rfl, h5⟩
    | brk => cases hF; exact hQ .next .next s5 σ5 st5 (e1.trans e5) rfl I6 h5
    | ret X => obtain ⟨v, rfl, hv⟩ := hF; exact hQ (.ret X) (.ret v) s5 σ5 st5 (e1.trans e5) ⟨v, rfl, hv⟩ I6 h5
  · have hi' : i = Xs.length := by omega
    subst hi'
    rw [List.drop_length] at h1
    obtain ⟨o1, ho1a, ho1b⟩ := ho1
    refine falso (P.done σ1 st1 s1 _ e1 ⟨o1, ho1a, ho1b⟩ I1 h1.1 fun h2 tk hk2 => ?_)
    have I2 : InvS C σ1 st1 { s1 with heap := h2, toks := tk } := I1.apart hk2 hf1.1 hf1.2.1 hf1.2.2.1 hf1.2.2.2.1 hf1.2.2.2.2 ho1a (.inl (P.cls _ _ ho1b))
    exact wpAny_execs_nil (hQ .next .next _ σ1 st1 e1 rfl I2 h1.2)

def RStr (ty : String) (x : Str) (t : Tok) (i : Nat) (o : Obj) : Prop := o.cls = .type ty ∧ o.data = .fields #[.str x t, .int i 0]
def RList (l : Addr) (i : Nat) (o : Obj) : Prop := o.cls = .type "list_iterator" ∧ o.data = .fields #[.ref l, .int i 0]
def signs (x : List Nat) : List V := x.map fun c => .str [c]

theorem protAscii {A : Around} (hh : A.handled = none) (I : Addr) (x : List Nat) (t : Tok) (σ0 : List Addr) : Prot C A σ0 I (signs x) (fun _ => True) (RStr "str_ascii_iterator" ⟨x.toArray⟩ t) where
  next := fun i σ st s X Q _ ho _ _ hX hQ => by
    obtain ⟨o, ho, hc, hd⟩ := ho
    unfold signs at hX
    rw [List.getElem?_map] at hX
    cases hc' : x[i]? with
    | none => simp [hc'] at hX
    | some c =>
      simp [hc'] at hX; subst hX
      exact wpAny_pyNext_ascii_item (c := c) ⟨o, ho, hc, hd⟩ (by simpa using hc') fun h' ⟨o', ho', hc2, hd2⟩ hs => hQ _ h' _ ⟨_, rfl⟩ ⟨o', ho', hc2, hd2⟩ hs.extBut
  done := fun σ st s Q _ ho _ _ hQ => by
    obtain ⟨o, ho, hc, hd⟩ := ho
    exact wpAny_pyNext_ascii_end hh (i := (signs x).length) ⟨o, ho, hc, hd⟩ (by simp [signs]) fun h' hk => hQ h' _ hk
  cls := fun i o h => by rw [h.1]; simp
theorem protWide {A : Around} (hh : A.handled = none) (I : Addr) (x : List Nat) (t : Tok) (σ0 : List Addr) : Prot C A σ0 I (signs x) (fun _ => True) (RStr "str_iterator" ⟨x.toArray⟩ t) where
  next := fun i σ st s X Q _ ho _ _ hX hQ => by
    obtain ⟨o, ho, hc, hd⟩ := ho
    unfold signs at hX
    rw [List.getElem?_map] at hX
    cases hc' : x[i]? with
    | none => simp [hc'] at hX
    | some c =>
      simp [hc'] at hX; subst hX
      exact wpAny_pyNext_wide_item (c := c) ⟨o, ho, hc, hd⟩ (by simpa using hc') fun h' ⟨o', ho', hc2, hd2⟩ hs => hQ _ h' _ ⟨_, rfl⟩ ⟨o', ho', hc2, hd2⟩ hs.extBut
  done := fun σ st s Q _ ho _ _ hQ => by
    obtain ⟨o, ho, hc, hd⟩ := ho
    exact wpAny_pyNext_wide_end hh (i := (signs x).length) ⟨o, ho, hc, hd⟩ (by simp [signs]) fun h' hk => hQ h' _ hk
  cls := fun i o h => by rw [h.1]; simp
theorem protList {A : Around} (hh : A.handled = none) (I l : Addr) (k : Nat) (xs : List V) (σ0 : List Addr) (hl : σ0[k]? = some l) : Prot C A σ0 I xs (fun st => st.sto[k]? = some (.list xs)) (fun i o => RList l i o) where
  next := fun i σ st s X Q he ho hI hc' hX hQ => by
    obtain ⟨o, ho, hc, hd⟩ := ho
    obtain ⟨a', ob, f1, f2, vs, n, rfl, hv⟩ := hI.obj _ _ hc'
    have := he k l hl
    rw [this] at f1; cases f1
    obtain ⟨v, hv1, hv2⟩ := hv.get i X hX
    exact wpAny_pyNext_list_item ⟨o, ho, hc, hd⟩ ⟨_, f2, rfl, n, rfl⟩ (by simpa using hv1) fun h' ⟨o', ho', hc2, hd2⟩ hs => hQ _ h' _ hv2 ⟨o', ho', hc2, hd2⟩ hs.extBut
  done := fun σ st s Q he ho hI hc' hQ => by
    obtain ⟨o, ho, hc, hd⟩ := ho
    obtain ⟨a', ob, f1, f2, vs, n, rfl, hv⟩ := hI.obj _ _ hc'
    have := he k l hl
    rw [this] at f1; cases f1
    exact wpAny_pyNext_list_end hh (i := xs.length) ⟨o, ho, hc, hd⟩ ⟨_, f2, rfl, n, rfl⟩ (by simp [hv.len]) fun h' hk => hQ h' _ hk
  cls := fun i o h => by rw [h.1]; simp

def forOver (x : String) (b : SW) (X : V) : SW := fun st Q => match X with
  | .str y => forW (fun _ => True) x b (signs y) st Q
  | .ref k => match st.sto[k]? with
    | some (.list xs) => forW (fun st => st.sto[k]? = some (.list xs)) x b xs st Q
    | _ => False
  | _ => False
def sFor (x : String) (a : EW) (b : SW) : SW := fun st Q => a st fun X st1 => forOver x b X st1 Q
theorem ES.for {x : String} {px p : Pos} {e : Expr} {body : List Stmt} {a : EW} {b : SW} (he : EV C sc e a) (hx : sc.names.lookup (Str.ofString x) = some .local) (hb : ∀ I o, EX (C.pin I o) sc body b) (hs : ∀ env x, foldedSetIterable e env x = pure x) :
    ES C sc (.For (.Name (Str.ofString x) px) e body [] p) (sFor x a b) := fun env A s σ st Q hn hA I hT h => by
  refine wpAny_For (tmono hT (he env A s σ st _ hn hA I hT h) (fun v s1 t1 h1 => ?_) fun _ _ e => e) (hs env)
  obtain ⟨σ1, X, st1, e1, hX, I1, h1⟩ := h1
  unfold forOver at h1
  split at h1
  · rename_i y
    obtain ⟨t, rfl⟩ := hX
    have hf := I1.fresh (Nat.le_refl _)
    cases ha : y.toArray.all (· < 128)
    · refine wpAny_pyIter_wide ha ?_
      refine for_loop (protWide hA.1 _ y t σ1) hn hA hx (hb _) (I1.heapPush _) (by exact t1) hf ⟨_, Heap.get?_push_size _ rfl, rfl, rfl⟩ h1 (fun fl f s' σ' st' e' hF I' q => ⟨σ', fl, st', e1.trans e', hF, I', q⟩)
    · refine wpAny_pyIter_ascii ha ?_
      refine for_loop (protAscii hA.1 _ y t σ1) hn hA hx (hb _) (I1.heapPush _) (by exact t1) hf ⟨_, Heap.get?_push_size _ rfl, rfl, rfl⟩ h1 (fun fl f s' σ' st' e' hF I' q => ⟨σ', fl, st', e1.trans e', hF, I', q⟩)
  · obtain ⟨l, hl, rfl⟩ := hX
    split at h1
    · rename_i k xs hxs
      obtain ⟨a', ob, f1, f2, vs, n, rfl, hv⟩ := I1.obj _ _ hxs
      rw [hl] at f1; cases f1
      refine wpAny_pyIter_list ⟨_, f2, rfl, n, rfl⟩ ?_
      exact for_loop (protList hA.1 _ l _ xs σ1 hl) hn hA hx (hb _) (I1.heapPush _) (by exact t1) (I1.fresh (Nat.le_refl _)) ⟨_, Heap.get?_push_size _ rfl, rfl, rfl⟩ h1 (fun fl f s' σ' st' e' hF I' q => ⟨σ', fl, st', e1.trans e', hF, I', q⟩)
    · exact h1.elim
  · exact h1.elim

/- calls -/
abbrev CW := List V → St → (V → St → Prop) → Prop
def CallOk (C : Cx) (f : Value) (W : CW) : Prop :=
  ∀ (A : Around) (s : Shared) (σ : List Addr) (st : St) (Xs : List V) (vs : List Value) (Q : V → St → Prop), AOk C.d A → InvS C σ st s → 1 ≤ s.toks → VRs σ Xs vs → W Xs st Q →
    wpAny (model C.G.prog C.G.w) A (call f vs) (PV C σ Q) Bot s
def wCall (b : LW) (W : CW) : EW := fun st Q => b st fun Xs st1 => W Xs st1 Q

theorem name_glob {x : Str} {p : Pos} {v : Value} {env : Env} {A : Around} {s : Shared} {σ : List Addr} {st : St} {Q : Value → Shared → Prop} (hn : EnvAt C sc env) (I : InvS C σ st s) (hl : sc.names.lookup x = some .globalImplicit) (hd : (x == ("__debug__" : Str)) = false)
    (hg : C.G.mg x = some v) (h : Q v s) : wpAny (model C.G.prog C.G.w) A (eval (.Name x p) env) Q Bot s := by
  obtain ⟨m, F, _⟩ := I.fr
  exact Name_function_global (by rw [hn.esc]; exact hn.kind) (by unfold Env.kindOf; rw [hn.esc]; exact hl) (loadGlobal_global (by rw [hn.glob]; exact I.ok.g.keeps F.keep) hg h) hd
theorem name_blt {x : Str} {p : Pos} {v : Value} {env : Env} {A : Around} {s : Shared} {σ : List Addr} {st : St} {Q : Value → Shared → Prop} (hn : EnvAt C sc env) (I : InvS C σ st s) (hl : sc.names.lookup x = some .globalImplicit) (hd : (x == ("__debug__" : Str)) = false)
    (hg : C.G.mg x = none) (hb : bootBuiltins x = some v) (hne : x ≠ "__name__") (h : Q v s) : wpAny (model C.G.prog C.G.w) A (eval (.Name x p) env) Q Bot s := by
  obtain ⟨m, F, _⟩ := I.fr
  exact Name_function_global (by rw [hn.esc]; exact hn.kind) (by unfold Env.kindOf; rw [hn.esc]; exact hl)
    (loadGlobal_builtin (by rw [hn.glob]; exact I.ok.g.keeps F.keep) hg (by rw [hn.blt]; exact I.ok.b.keeps F.keep) ((I.ok.boot x hne).trans hb) h) hd

/-- a call of a built-in function by its name -/
theorem EV.callB {x : Str} {id : String} {e : Expr} {r : List Expr} {p pos : Pos} {b : LW} {W : CW} (hl : sc.names.lookup x = some .globalImplicit) (hd : (x == ("__debug__" : Str)) = false) (hg : C.G.mg x = none) (hb : bootBuiltins x = some (.builtin id)) (hne : x ≠ "__name__")
    (hargs : EL C sc (e :: r) b) (hc : CallOk C (.builtin id) W) (hst : ∀ env, starEach (e :: r) env = (false, eval e env) :: starEach r env) (hplain : ∀ env, (backTo pos (starEach r env)).any (·.1) = false) :
    EV C sc (.Call (.Name x p) (e :: r) [] pos) (wCall b W) := fun env A s σ st Q hn hA I hT h => by
  refine wpAny_Call_NameR (name_blt hn I hl hd hg hb hne ?_)
  refine callWith_method1 (first := []) (tmono hT (hargs env A s σ st _ pos hn hA I hT h) (fun vs s1 t1 h1 => ?_) fun _ _ e => e) (hst env) (hplain env)
  obtain ⟨σ1, Xs, st1, e1, hXs, I1, h1⟩ := h1
  exact wpAny_mono (hc A s1 σ1 st1 Xs vs _ hA I1 t1 hXs h1) (fun v s2 ⟨σ2, X, st2, e2, r⟩ => ⟨σ2, X, st2, e1.trans e2, r⟩) fun _ _ e => e

/-- a call of one of the text's own -/
theorem EV.callF {x : Str} {f : Addr} {o : Obj} {fd : FuncData} {e : Expr} {r : List Expr} {p pos : Pos} {b : LW} {W : CW} (hl : sc.names.lookup x = some .globalImplicit) (hd : (x == ("__debug__" : Str)) = false) (hg : C.G.mg x = some (.ref f)) (ho : C.G.K.lookup f = some o) (hfd : o.data = .func fd)
    (hargs : EL C sc (e :: r) b) (hc : CallOk C (.ref f) W) (hst : ∀ env, starEach (e :: r) env = (false, eval e env) :: starEach r env) :
    EV C sc (.Call (.Name x p) (e :: r) [] pos) (wCall b W) := fun env A s σ st Q hn hA I hT h => by
  refine wpAny_Call_NameR (name_glob hn I hl hd hg ?_)
  refine callWith_function (o := o) (fd := fd) ?_
  have he : backTo pos (starEach (e :: r) env) = backTo pos ((false, eval e env) :: starEach r env) := by rw [hst env]
  have key := hargs env A s σ st _ pos hn hA I hT h
  rw [he] at key ⊢
  refine evalArgs_plain (tmono hT key (fun vs s1 t1 h1 => ?_) fun _ _ e => e)
  obtain ⟨σ1, Xs, st1, e1, hXs, I1, h1⟩ := h1
  obtain ⟨m, F, _⟩ := I1.fr
  refine ⟨⟨F.keep _ _ (I1.ok.k _ _ ho), hfd⟩, ?_⟩
  exact wpAny_mono (hc A s1 σ1 st1 Xs vs _ hA I1 t1 hXs h1) (fun v s2 ⟨σ2, X, st2, e2, r⟩ => ⟨σ2, X, st2, e1.trans e2, r⟩) fun _ _ e => e

/- methods -/
def isList (st : St) (X : V) : Prop := ∃ k xs, X = .ref k ∧ st.sto[k]? = some (.list xs)
def wMethS (a : EW) (b : LW) (W : CW) : EW := fun st Q => a st fun X st1 => (∃ x, X = .str x) ∧ b st1 fun Xs st2 => W (X :: Xs) st2 Q
def wMethL (a : EW) (b : LW) (W : CW) : EW := fun st Q => a st fun X st1 => isList st1 X ∧ b st1 fun Xs st2 => W (X :: Xs) st2 Q
theorem EV.methS {o e : Expr} {name : Str} {id : String} {r : List Expr} {apos pos : Pos} {pl : Env → Sem Bool} {a : EW} {b : LW} {W : CW} (ho : EV C sc o a) (hargs : EL C sc (e :: r) b) (slot : Slot "str" name id) (hty : typeOf (.builtin id) = pure (.type "method_descriptor")) (hc : CallOk C (.builtin id) W)
    (he : ∀ env, eval (.Call (.Attribute o name apos) (e :: r) [] pos) env = (do
      let ov ← eval o env
      standAt apos.atName
      let (f, first) ← holding [ov] (getMethod ov name (pl env))
      callWith pos f first (backTo pos (starEach (e :: r) env)) []))
    (hst : ∀ env, starEach (e :: r) env = (false, eval e env) :: starEach r env) (hplain : ∀ env, (backTo pos (starEach r env)).any (·.1) = false) :
    EV C sc (.Call (.Attribute o name apos) (e :: r) [] pos) (wMethS a b W) := fun env A s σ st Q hn hA I hT h => by
  refine MethodCall_ (tmono hT (ho env A s σ st _ hn hA I hT h) (fun v s1 t1 h1 => ?_) fun _ _ e => e) (he env)
  obtain ⟨σ1, X, st1, e1, hX, I1, ⟨x, rfl⟩, h1⟩ := h1
  have hX1 := hX
  obtain ⟨t, rfl⟩ := hX
  refine getMethod_builtin (typeIs_str _ _ t) PySem.F.plainAttrs_str slot hty (fun a e => by cases e) ?_
  refine callWith_method1 (tmono t1 (hargs env A s1 σ1 st1 _ pos hn hA I1 t1 h1) (fun vs s2 t2 h2 => ?_) fun _ _ e => e) (hst env) (hplain env)
  obtain ⟨σ2, Xs, st2, e2, hXs, I2, h2⟩ := h2
  exact wpAny_mono (hc A s2 σ2 st2 (.str x :: Xs) (_ :: vs) _ hA I2 t2 ⟨_, vs, rfl, hX1.ext e2, hXs⟩ h2) (fun v s2 ⟨σ3, X, st2, e3, r⟩ => ⟨σ3, X, st2, e1.trans (e2.trans e3), r⟩) fun _ _ e => e
def wMethS0 (a : EW) (W : CW) : EW := fun st Q => a st fun X st1 => (∃ x, X = .str x) ∧ W [X] st1 Q
theorem EV.methS0 {o : Expr} {name : Str} {id : String} {apos pos : Pos} {pl : Env → Sem Bool} {a : EW} {W : CW} (ho : EV C sc o a) (slot : Slot "str" name id) (hty : typeOf (.builtin id) = pure (.type "method_descriptor")) (hc : CallOk C (.builtin id) W)
    (he : ∀ env, eval (.Call (.Attribute o name apos) [] [] pos) env = (do
      let ov ← eval o env
      standAt apos.atName
      let (f, first) ← holding [ov] (getMethod ov name (pl env))
      callWith pos f first (backTo pos (starEach [] env)) [])) :
    EV C sc (.Call (.Attribute o name apos) [] [] pos) (wMethS0 a W) := fun env A s σ st Q hn hA I hT h => by
  refine MethodCall_ (tmono hT (ho env A s σ st _ hn hA I hT h) (fun v s1 t1 h1 => ?_) fun _ _ e => e) (he env)
  obtain ⟨σ1, X, st1, e1, hX, I1, ⟨x, rfl⟩, h1⟩ := h1
  have hX1 := hX
  obtain ⟨t, rfl⟩ := hX
  refine getMethod_builtin (typeIs_str _ _ t) PySem.F.plainAttrs_str slot hty (fun a e => by cases e) ?_
  refine callWith_method0 ?_
  exact wpAny_mono (hc A s1 σ1 st1 [.str x] [_] _ hA I1 t1 ⟨_, [], rfl, hX1, rfl⟩ h1) (fun v s2 ⟨σ3, X, st2, e3, r⟩ => ⟨σ3, X, st2, e1.trans e3, r⟩) fun _ _ e => e
theorem EV.methL {o e : Expr} {name : Str} {id : String} {r : List Expr} {apos pos : Pos} {pl : Env → Sem Bool} {a : EW} {b : LW} {W : CW} (ho : EV C sc o a) (hargs : EL C sc (e :: r) b) (slot : Slot "list" name id) (hty : typeOf (.builtin id) = pure (.type "method_descriptor")) (hc : CallOk C (.builtin id) W)
    (he : ∀ env, eval (.Call (.Attribute o name apos) (e :: r) [] pos) env = (do
      let ov ← eval o env
      standAt apos.atName
      let (f, first) ← holding [ov] (getMethod ov name (pl env))
      callWith pos f first (backTo pos (starEach (e :: r) env)) []))
    (hst : ∀ env, starEach (e :: r) env = (false, eval e env) :: starEach r env) (hplain : ∀ env, (backTo pos (starEach r env)).any (·.1) = false) :
    EV C sc (.Call (.Attribute o name apos) (e :: r) [] pos) (wMethL a b W) := fun env A s σ st Q hn hA I hT h => by
  refine MethodCall_ (tmono hT (ho env A s σ st _ hn hA I hT h) (fun v s1 t1 h1 => ?_) fun _ _ e => e) (he env)
  obtain ⟨σ1, X, st1, e1, hX, I1, ⟨k, xs, rfl, hxs⟩, h1⟩ := h1
  have hX1 := hX
  obtain ⟨l, hl, rfl⟩ := hX
  obtain ⟨a', ob, f1, f2, vs, n, rfl, hv⟩ := I1.obj _ _ hxs
  rw [hl] at f1; cases f1
  refine getMethod_builtin ⟨_, f2, rfl⟩ PySem.F.plainAttrs_list slot hty (fun a e => by cases e; exact ⟨_, f2, rfl⟩) ?_
  refine callWith_method1 (tmono t1 (hargs env A s1 σ1 st1 _ pos hn hA I1 t1 h1) (fun vs s2 t2 h2 => ?_) fun _ _ e => e) (hst env) (hplain env)
  obtain ⟨σ2, Xs, st2, e2, hXs, I2, h2⟩ := h2
  exact wpAny_mono (hc A s2 σ2 st2 (.ref k :: Xs) (_ :: vs) _ hA I2 t2 ⟨_, vs, rfl, hX1.ext e2, hXs⟩ h2) (fun v s2 ⟨σ3, X, st2, e3, r⟩ => ⟨σ3, X, st2, e1.trans (e2.trans e3), r⟩) fun _ _ e => e

/- the built-ins themselves -/
def cAppend : CW := fun Xs st Q => ∃ k xs Y, Xs = [.ref k, Y] ∧ st.sto[k]? = some (.list xs) ∧ st.nb ≤ k ∧ xs.length ≤ 16777216 ∧ Q .none (st.upd k (.list (xs ++ [Y])))
theorem CallOk.append : CallOk C (.builtin "list.append") cAppend := fun A s σ st Xs vs Q hA I hT hv h => by
  obtain ⟨k, xs, Y, rfl, hxs, hnb, hlen, h⟩ := h
  obtain ⟨v, r, rfl, ⟨l, hl, rfl⟩, w, r', rfl, hY, rfl⟩ := hv
  obtain ⟨a', ob, f1, f2, vs, n, rfl, hvs⟩ := I.obj _ _ hxs
  rw [hl] at f1; cases f1
  refine wpAny_list_append_plain ⟨n, f2⟩ (fun h' hl' hs => ?_) (by rw [sizeLine_val]; simp [hvs.len]; exact hlen)
  obtain ⟨n', hl'⟩ := hl'
  refine ⟨σ, .none, _, Ext.rfl', rfl, I.updObj (o := .list (xs ++ [Y])) hl hnb f2 (by simp) hs hl' ⟨vs ++ [w], n', by simp, hvs.append ⟨w, [], rfl, hY, rfl⟩⟩, h⟩
def cLen : CW := fun Xs st Q => (∃ x, Xs = [.str x] ∧ x.length ≤ 16777216 ∧ Q (.int x.length) st) ∨ (∃ k xs, Xs = [.ref k] ∧ st.sto[k]? = some (.list xs) ∧ xs.length ≤ 16777216 ∧ Q (.int xs.length) st)
def cChr : CW := fun Xs st Q => ∃ i : Int, Xs = [.int i] ∧ 0 ≤ i ∧ i ≤ 1114111 ∧ Q (.str [i.toNat]) st
theorem CallOk.chr : CallOk C (.builtin "chr") cChr := fun A s σ st Xs vs Q hA I hT hv h => by
  obtain ⟨i, rfl, h0, h1, h⟩ := h
  obtain ⟨v, r, rfl, ⟨t, rfl⟩, rfl⟩ := hv
  exact P.chr_of_int (by simp; omega) ⟨σ, .str [i.toNat], st, Ext.rfl', ⟨_, rfl⟩, I, h⟩
end
/- plain facts of texts -/
def repl1 (c : Nat) (z : List Nat) (x : List Nat) : List Nat := x.flatMap fun d => if d = c then z else [d]
theorem repl_free (c : Nat) (z : List Nat) : ∀ l : List Nat, c ∉ l → repl1 c z l = l
  | [], _ => rfl
  | k :: r, h => by
    have h1 : ¬ k = c := fun e => h (e ▸ List.mem_cons_self ..)
    have ih := repl_free c z r fun m => h (List.mem_cons_of_mem _ m)
    unfold repl1 at ih ⊢
    rw [List.flatMap_cons, if_neg h1, ih]; rfl
theorem repl_join (c : Nat) (z : List Nat) : ∀ parts : List Str, (∀ p ∈ parts, c ∉ p.cps.toList) → repl1 c z (Str.join ⟨#[c]⟩ parts).cps.toList = (Str.join ⟨z.toArray⟩ parts).cps.toList
  | [], _ => rfl
  | [p], h => repl_free c z _ (h p (List.mem_singleton.mpr rfl))
  | p :: q :: r, h => by
    have ih := repl_join c z (q :: r) fun a ha => h a (List.mem_cons_of_mem _ ha)
    show repl1 c z (p ++ ⟨#[c]⟩ ++ Str.join ⟨#[c]⟩ (q :: r)).cps.toList = (p ++ ⟨z.toArray⟩ ++ Str.join ⟨z.toArray⟩ (q :: r)).cps.toList
    simp only [Str.cps_append, Array.toList_append]
    have f := repl_free c z _ (h p (List.mem_cons_self ..))
    unfold repl1 at ih f ⊢
    rw [List.flatMap_append, List.flatMap_append, ih, f]
    simp
theorem replace_is (x : List Nat) (c : Nat) (z : List Nat) : Txt.replace ⟨x.toArray⟩ ⟨#[c]⟩ ⟨z.toArray⟩ = ⟨(repl1 c z x).toArray⟩ := by
  have h : (Txt.replace ⟨x.toArray⟩ ⟨#[c]⟩ ⟨z.toArray⟩).cps.toList = repl1 c z x := by
    rw [StrLaws.replace_one, ← repl_join c z _ (StrLaws.split_free ⟨x.toArray⟩ c), StrLaws.join_split]
  rw [← h]

def FindAt (x : List Nat) (c lo hi : Nat) (r : Int) : Prop := (r = -1 ∧ ∀ n, lo ≤ n → n < hi → x[n]? ≠ some c) ∨ ∃ n : Nat, r = n ∧ lo ≤ n ∧ n < hi ∧ x[n]? = some c ∧ ∀ m, lo ≤ m → m < n → x[m]? ≠ some c
theorem at_one (x : List Nat) (c hi i : Nat) (hh : hi ≤ x.length) : StrLaws.At ⟨x.toArray⟩ ⟨#[c]⟩ hi i ↔ (i < hi ∧ x[i]? = some c) := by
  have key := StrLaws.subAt_one ⟨x.toArray⟩ c i
  have e : (⟨#[c]⟩ : Str).length = 1 := rfl
  have e2 : (⟨x.toArray⟩ : Str).length = x.length := str_len x
  have e3 : (⟨x.toArray⟩ : Str).cps.toList = x := by simp
  rw [e, e2, e3] at key
  unfold StrLaws.At
  rw [e]
  constructor
  · rintro ⟨h1, h2⟩
    exact ⟨by omega, key.mp ⟨by omega, h2⟩⟩
  · rintro ⟨h1, h2⟩
    exact ⟨by omega, (key.mpr h2).2⟩
theorem occ_find (x : List Nat) (c lo hi : Nat) (hh : hi ≤ x.length) :
    FindAt x c lo hi (match Builtin.Str.occurrences ⟨x.toArray⟩ ⟨#[c]⟩ lo hi 1 with | k :: _ => (k : Int) | [] => -1) := by
  rw [StrLaws.occ_eq]
  rcases StrLaws.occ_first ⟨x.toArray⟩ ⟨#[c]⟩ hi 1 (Nat.le_refl 1) (List.range' lo (hi + 1 - lo)) lo (fun i hi => by have := List.mem_range'_1.mp hi; omega) with ⟨h0, hn⟩ | ⟨pre, a, post, e, h0, ha, hn⟩
  · rw [h0]
    refine .inl ⟨rfl, fun n h1 h2 h3 => hn n (by rw [List.mem_range'_1]; omega) ((at_one x c hi n hh).mpr ⟨h2, h3⟩)⟩
  · have hs := StrLaws.range'_split_from e
    have ha' := (at_one x c hi a hh).mp ha
    generalize (forIn (List.range' lo (hi + 1 - lo)) ((#[] : Array Nat), lo) (StrLaws.occBody ⟨x.toArray⟩ ⟨#[c]⟩ hi 1)).run.fst = arr at h0
    have h1 : arr.toList[0]? = some a := by simpa using h0
    cases hL : arr.toList with
    | nil => rw [hL] at h1; cases h1
    | cons b t =>
      rw [hL] at h1; simp at h1; subst h1
      exact .inr ⟨b, rfl, hs.1, ha'.1, ha'.2, fun m h1 h2 h3 => hn m (hs.2 m h1 h2) ((at_one x c hi m hh).mpr ⟨by omega, h3⟩)⟩

theorem gives_find4 (x y : Str) (i j : Int) (t u v w : Tok) : Gives (Builtin.«str.find» ⟨[.str x t, .str y u, .int i v, .int j w], []⟩) (.int (match Builtin.Str.occurrences x y (fromIndex x.length i) (min (fromIndex x.length j) x.length) 1 with | k :: _ => (k : Int) | [] => -1)) := by
  show Gives (match Builtin.Str.occurrences x y (fromIndex x.length i) (min (fromIndex x.length j) x.length) 1 with | k :: _ => retInt k | [] => (do rule "str.find.not-found"; retInt (-1))) _
  cases Builtin.Str.occurrences x y (fromIndex x.length i) (min (fromIndex x.length j) x.length) 1 with
  | nil => exact .rule (.of_eq rfl)
  | cons k _ => exact .of_eq rfl

section
variable {C : Cx} {sc : Scope}
theorem CallOk.len : CallOk C (.builtin "len") cLen := fun A s σ st Xs vs Q hA I hT hv h => by
  rcases h with ⟨x, rfl, hl, h⟩ | ⟨k, xs, rfl, hxs, hl, h⟩
  · obtain ⟨v, r, rfl, ⟨t, rfl⟩, rfl⟩ := hv
    exact SBL.len (by rw [str_len]; omega) ⟨σ, .int x.length, st, Ext.rfl', ⟨_, by rw [str_len]⟩, I, h⟩
  · obtain ⟨v, r, rfl, ⟨a, ha, rfl⟩, rfl⟩ := hv
    obtain ⟨a', ob, f1, f2, vs, n, rfl, hvs⟩ := I.obj _ _ hxs
    rw [ha] at f1; cases f1
    have hsz : vs.toArray.size = xs.length := by simp [hvs.len]
    exact call_len_list ⟨_, f2, rfl, n, rfl⟩ (by rw [hsz]; omega) ⟨σ, .int xs.length, st, Ext.rfl', ⟨_, by rw [hsz]⟩, I, h⟩

def strp (x : List Nat) : List Nat := (Txt.strip ⟨x.toArray⟩).cps.toList
def cStrip : CW := fun Xs st Q => ∃ x, Xs = [.str x] ∧ x.length ≤ 16777216 ∧ Q (.str (strp x)) st
theorem CallOk.strip : CallOk C (.builtin "str.strip") cStrip := fun A s σ st Xs vs Q hA I hT hv h => by
  obtain ⟨x, rfl, hl, h⟩ := h
  obtain ⟨v, r, rfl, ⟨t, rfl⟩, rfl⟩ := hv
  exact SC.strip (fun t' k => ⟨σ, .str (strp x), st, Ext.rfl', ⟨t', by simp [strp]⟩, I, h⟩) (by rw [str_len, sizeLine_val]; exact hl)

def cFind : CW := fun Xs st Q => (∃ x c i, Xs = [.str x, .str [c], .int i] ∧ 0 ≤ i ∧ ∀ r, FindAt x c i.toNat x.length r → Q (.int r) st) ∨
  (∃ x c i j, Xs = [.str x, .str [c], .int i, .int j] ∧ 0 ≤ i ∧ 0 ≤ j ∧ j ≤ x.length ∧ ∀ r, FindAt x c i.toNat j.toNat r → Q (.int r) st)
theorem fromIndex_nn (n : Nat) (i : Int) (h : 0 ≤ i) : fromIndex n i = i.toNat := by
  unfold fromIndex
  rw [if_neg (by omega)]; congr 1; omega
theorem CallOk.find : CallOk C (.builtin "str.find") cFind := fun A s σ st Xs vs Q hA I hT hv h => by
  rcases h with ⟨x, c, i, rfl, hi, h⟩ | ⟨x, c, i, j, rfl, hi, hj, hjl, h⟩
  · obtain ⟨v, r, rfl, ⟨t, rfl⟩, w, r', rfl, ⟨u, rfl⟩, w2, r2, rfl, ⟨u2, rfl⟩, rfl⟩ := hv
    refine SC.find3 ?_
    have key := occ_find x c i.toNat x.length (Nat.le_refl _)
    refine ⟨σ, .int _, st, Ext.rfl', ⟨_, rfl⟩, I, h _ ?_⟩
    unfold Txt.find3
    rw [str_len, fromIndex_nn _ _ hi]
    exact key
  · obtain ⟨v, r, rfl, ⟨t, rfl⟩, w, r', rfl, ⟨u, rfl⟩, w2, r2, rfl, ⟨u2, rfl⟩, w3, r3, rfl, ⟨u3, rfl⟩, rfl⟩ := hv
    refine call_gives F.slot_str_find (typeIs_str _ _ _) F.entry_str_find (F.args_str_find_4 _ _ _ _) (gives_find4 _ _ i j _ _ _ _) ?_
    have key := occ_find x c i.toNat j.toNat (by omega)
    refine ⟨σ, .int _, st, Ext.rfl', ⟨_, rfl⟩, I, h _ ?_⟩
    rw [str_len, fromIndex_nn _ _ hi, fromIndex_nn _ _ hj, Nat.min_eq_left (by omega)]
    exact key

/- o.replace("c", "z") -/
def wRepl (a : EW) (c : Nat) (z : List Nat) : EW := fun st Q => a st fun X st1 => ∃ x, X = .str x ∧ x.length + (x.length + 1) * z.length ≤ 16777216 ∧ Q (.str (repl1 c z x)) st1
theorem EV.repl {o : Expr} {y z : String} {c : Nat} {k1 k2 : Nat} {p1 p2 apos pos : Pos} {pl : Env → Sem Bool} {a : EW} (ho : EV C sc o a) (hy : Str.ofString y = ⟨#[c]⟩) (hyz : (Str.ofString y == Str.ofString z) = false)
    (he : ∀ env, eval (.Call (.Attribute o "replace" apos) [.Constant (.str (Str.ofString y)) k1 p1, .Constant (.str (Str.ofString z)) k2 p2] [] pos) env = (do
      let ov ← eval o env
      standAt apos.atName
      let (f, first) ← holding [ov] (getMethod ov "replace" (pl env))
      callWith pos f first (backTo pos (starEach [.Constant (.str (Str.ofString y)) k1 p1, .Constant (.str (Str.ofString z)) k2 p2] env)) [])) :
    EV C sc (.Call (.Attribute o "replace" apos) [.Constant (.str (Str.ofString y)) k1 p1, .Constant (.str (Str.ofString z)) k2 p2] [] pos) (wRepl a c (sl z)) := fun env A s σ st Q hn hA I hT h => by
  refine MethodCall_ (tmono hT (ho env A s σ st _ hn hA I hT h) (fun v s1 t1 h1 => ?_) fun _ _ e => e) (he env)
  obtain ⟨σ1, X, st1, e1, hX, I1, x, rfl, hb, h1⟩ := h1
  obtain ⟨t, rfl⟩ := hX
  refine getMethod_builtin (typeIs_str _ _ t) PySem.F.plainAttrs_str PySem.F.slot_str_replace PySem.F.type_str_replace (fun a e => by cases e) ?_
  refine callWith_method1 (wpAny_items_cons (wpAny_Constant_str (wpAny_items_cons (wpAny_Constant_str (wpAny_items_nil ?_)) rfl)) rfl) rfl rfl
  have hz : (Str.ofString z) = ⟨(sl z).toArray⟩ := by simp [sl]
  refine SC.replace (by show s1.toks ≠ 0; omega) (by show s1.toks + 1 ≠ 0; omega) (by show s1.toks ≠ s1.toks + 1; omega) hyz ?_ fun t' k => ⟨σ1, .str _, st1, e1, ⟨t', ?_⟩, I1, h1⟩
  · rw [str_len, hz, str_len]; exact hb
  · rw [hy, hz, replace_is]

/- "c" in x -/
def bNotIn (c : Nat) (b : EW) : BW := fun st Q => b st fun X st1 => ∃ x, X = .str x ∧ Q (!decide (c ∈ x)) st1
theorem EB.notIn {y : String} {c : Nat} {e : Expr} {k : Nat} {p1 p : Pos} {b : EW} (hy : Str.ofString y = ⟨#[c]⟩) (he : EV C sc e b) (hm : behindInMarks .NotIn e = false) : EB C sc (.Compare (.Constant (.str (Str.ofString y)) k p1) [.NotIn] [e] p) (bNotIn c b) := fun env A s σ st Q hn hA I hT h => by
  refine wpAny_isTrue_Compare1 (wpAny_Constant_str ?_) hm
  refine wpAny_mono (he env A _ σ st _ hn hA I (Nat.le_add_left 1 _) h) (fun v s1 h1 => ?_) fun _ _ e => e
  obtain ⟨σ1, X, st1, e1, hX, I1, x, rfl, h1⟩ := h1
  obtain ⟨t, rfl⟩ := hX
  refine P.notIn_str (wpAny_truthy_bool ?_)
  rw [hy, StrLaws.found_one]
  exact ⟨σ1, st1, e1, I1, h1⟩

/- x in ("a", "b") -/
def bInTwo (b : EW) (y z : String) : BW := fun st Q => b st fun X st1 => ∃ x, X = .str x ∧ Q (decide (x = sl y ∨ x = sl z)) st1
theorem EB.inTwo {y z : String} {e : Expr} {k1 k2 k3 : Nat} {p1 p2 p3 p : Pos} {b : EW} (he : EV C sc e b) : EB C sc (.Compare e [.In] [.Tuple [.Constant (.str (Str.ofString y)) k1 p1, .Constant (.str (Str.ofString z)) k2 p2] k3 p3] p) (bInTwo b y z) := fun env A s σ st Q hn hA I hT h => by
  refine wpAny_isTrue_Compare1 (tmono hT (he env A s σ st _ hn hA I hT h) (fun v s1 t1 h1 => ?_) fun _ _ e => e) rfl
  obtain ⟨σ1, X, st1, e1, hX, I1, x, rfl, h1⟩ := h1
  obtain ⟨t, rfl⟩ := hX
  refine wpAny_Tuple (wpAny_items_cons (wpAny_Constant_str (wpAny_items_cons (wpAny_Constant_str (wpAny_items_nil ⟨by rw [sizeLine_val]; simp, ?_⟩)) rfl)) rfl)
  refine in_tuple_strs (ys := [Str.ofString y, Str.ofString z]) (items := #[.str (Str.ofString y) s1.toks, .str (Str.ofString z) (s1.toks + 1)]) ⟨_, Heap.get?_push_size _ rfl, rfl, 0, rfl⟩ (.cons _ _ (.cons _ _ .nil)) (wpAny_truthy_bool ?_)
  have e2 : (List.any [Str.ofString y, Str.ofString z] fun a => a == (⟨x.toArray⟩ : Str)) = decide (x = sl y ∨ x = sl z) := by
    have q : ∀ w : String, (Str.ofString w == (⟨x.toArray⟩ : Str)) = decide (x = sl w) := fun w => by
      have : Str.ofString w = ⟨(sl w).toArray⟩ := by simp [sl]
      rw [this, str_beq]
      by_cases hq : x = sl w
      · rw [hq]; simp
      · have : ¬ sl w = x := fun z => hq z.symm
        simp [hq, this]
    simp only [List.any_cons, List.any_nil, Bool.or_false, q]
    by_cases h1 : x = sl y <;> by_cases h2 : x = sl z <;> simp [h1, h2]
  rw [e2]
  exact ⟨σ1, st1, e1, I1.heapPush _, h1⟩

/- sep.join(xs) -/
def texts : List V → Option (List (List Nat))
  | [] => some []
  | .str x :: r => (texts r).map (x :: ·)
  | _ :: _ => none
def joins (sep : List Nat) : List (List Nat) → List Nat
  | [] => []
  | [x] => x
  | x :: y :: r => x ++ (sep ++ joins sep (y :: r))
def lsum (ts : List (List Nat)) : Nat := (ts.map List.length).sum
def cJoin : CW := fun Xs st Q => ∃ sep k xs ts, Xs = [.str sep, .ref k] ∧ st.sto[k]? = some (.list xs) ∧ texts xs = some ts ∧ lsum ts + ts.length * sep.length ≤ 16777216 ∧ Q (.str (joins sep ts)) st
theorem texts_vals {σ : List Addr} : ∀ {xs : List V} {ts : List (List Nat)} {vs : List Value}, texts xs = some ts → VRs σ xs vs → ∃ l : List (Str × Tok), strValues l = vs ∧ l.map (·.1) = ts.map fun x => ⟨x.toArray⟩
  | [], _, _, h, hv => by cases h; cases hv; exact ⟨[], rfl, rfl⟩
  | .str x :: r, ts, _, h, ⟨v, vr, hv1, ⟨t, hv2⟩, hv3⟩ => by
    unfold texts at h
    cases hr : texts r with
    | none => rw [hr] at h; cases h
    | some tr =>
      rw [hr] at h; cases h
      obtain ⟨l, hl1, hl2⟩ := texts_vals hr hv3
      refine ⟨(⟨x.toArray⟩, t) :: l, ?_, ?_⟩
      · rw [hv1, hv2, ← hl1]; rfl
      · simp [hl2]
  | .none :: _, _, _, h, _ => by cases h
  | .bool _ :: _, _, _, h, _ => by cases h
  | .int _ :: _, _, _, h, _ => by cases h
  | .ref _ :: _, _, _, h, _ => by cases h
theorem join_is (sep : List Nat) : ∀ ts : List (List Nat), Str.join ⟨sep.toArray⟩ (ts.map fun x => (⟨x.toArray⟩ : Str)) = ⟨(joins sep ts).toArray⟩
  | [] => rfl
  | [x] => rfl
  | x :: y :: r => by
    have ih := join_is sep (y :: r)
    show (⟨x.toArray⟩ : Str) ++ ⟨sep.toArray⟩ ++ Str.join ⟨sep.toArray⟩ ((y :: r).map fun x => (⟨x.toArray⟩ : Str)) = _
    rw [ih, str_app, str_app, List.append_assoc]; rfl
theorem joinOk_of (sep : List Nat) (ts : List (List Nat)) (h : lsum ts + ts.length * sep.length ≤ 16777216) : JoinOk ⟨sep.toArray⟩ (ts.map fun x => (⟨x.toArray⟩ : Str)) = true := by
  unfold JoinOk
  have e : ∀ (l : List (List Nat)) (a : Nat), (l.map fun x => (⟨x.toArray⟩ : Str)).foldl (· + ·.length + (⟨sep.toArray⟩ : Str).length) a = a + lsum l + l.length * sep.length := by
    intro l
    induction l with
    | nil => intro a; simp [lsum]
    | cons x r ih =>
      intro a
      rw [List.map_cons, List.foldl_cons, ih, str_len, str_len]
      simp only [lsum, List.map_cons, List.sum_cons, List.length_cons, Nat.add_mul]
      omega
  have e2 := e ts 0
  rw [← Array.foldl_toList]
  rw [e2]
  unfold Builtin.Str.tooLong
  rw [sizeLine_val]
  simp; omega
theorem CallOk.join : CallOk C (.builtin "str.join") cJoin := fun A s σ st Xs vs Q hA I hT hv h => by
  obtain ⟨sep, k, xs, ts, rfl, hxs, hts, hb, h⟩ := h
  obtain ⟨v, r, rfl, ⟨t, rfl⟩, w, r', rfl, ⟨a, ha, rfl⟩, rfl⟩ := hv
  obtain ⟨a', ob, f1, f2, vs, n, rfl, hvs⟩ := I.obj _ _ hxs
  rw [ha] at f1; cases f1
  obtain ⟨l, hl1, hl2⟩ := texts_vals hts hvs
  refine SC.join (l := l) (texts := ts.map fun x => ⟨x.toArray⟩) ⟨_, f2, rfl, n, by rw [hl1]⟩ hl2 (joinOk_of sep ts hb) fun t' tk => ?_
  exact ⟨σ, .str (joins sep ts), st, Ext.rfl', ⟨t', by unfold Txt.join; rw [StrLaws.glued_eq_join, join_is]⟩, I, h⟩
end
/- a call of one of the text's own defs -/
def binds : List String → List V → String → Option V
  | p :: ps, X :: Xs => fun y => if y = p then some X else binds ps Xs y
  | _, _ => fun _ => none
def wFn (ps : List String) (body : SW) : CW := fun Xs st Q => Xs.length = ps.length ∧ body ⟨binds ps Xs, st.sto, st.sto.length⟩ fun fl st' => Q (match fl with | .ret X => X | _ => .none) ⟨st.loc, st'.sto, st.nb⟩

theorem binds_locR {σ : List Addr} {ps : List String} {Xs : List V} {vs : List Value} (h : VRs σ Xs vs) (hl : Xs.length = ps.length) : LocR σ (binds ps Xs) (fun y => ((ps.map Str.ofString).zip vs).lookup y) := by
  induction ps generalizing Xs vs with
  | nil => intro x X e; cases Xs <;> cases e
  | cons p ps ih =>
    cases Xs with
    | nil => cases hl
    | cons Y Xs =>
      obtain ⟨v, r, hv1, hv2, hv3⟩ := h
      have ih := ih hv3 (by simpa using hl)
      intro x X e
      subst hv1
      show ∃ w, List.lookup (Str.ofString x) ((Str.ofString p, v) :: (ps.map Str.ofString).zip r) = some w ∧ _
      have e : (if x = p then some Y else binds ps Xs x) = some X := e
      by_cases hx : x = p
      · subst hx
        rw [if_pos rfl] at e; cases e
        exact ⟨v, by simp [List.lookup_cons], hv2⟩
      · rw [if_neg hx] at e
        obtain ⟨w, h1, h2⟩ := ih x X e
        have : (Str.ofString x == Str.ofString p) = false := by simpa using fun q => hx (ofString_inj q)
        exact ⟨w, by rw [List.lookup_cons, this]; exact h1, h2⟩
theorem lookup_rev {l : List (Str × Value)} (h : (l.map (·.1)).Nodup) (x : Str) : l.reverse.lookup x = l.lookup x := by
  induction l with
  | nil => rfl
  | cons p r ih =>
    obtain ⟨n, v⟩ := p
    rw [List.map_cons, List.nodup_cons] at h
    rw [List.reverse_cons, List.lookup_append, ih h.2]
    by_cases hx : x = n
    · subst hx
      have hn : List.lookup x r = none := by
        rw [List.lookup_eq_none_iff]
        intro p hp
        have : x ≠ p.1 := fun q => h.1 (by rw [q]; exact List.mem_map.mpr ⟨p, hp, rfl⟩)
        first | simpa using this | exact this
      rw [hn]; simp [List.lookup]
    · have : (x == n) = false := by simpa using hx
      simp only [List.lookup, this]
      cases List.lookup x r <;> rfl

structure DefAt (C : Cx) (f : Addr) (fd : FuncData) (ps : List String) (body : List Stmt) (sc : Scope) : Prop where
  ob : ∃ o, C.G.K.lookup f = some o ∧ o.data = .func fd
  body : fd.body = .stmts body
  esc : fd.scope = sc
  glob : fd.globals = mainGlobals
  blt : fd.builtins = builtinsNs
  clo : fd.closure = []
  kind : sc.kind = .function
  coro : sc.isCoroutine = false
  gen : sc.isGenerator = false
  code : ∃ c o vs t, fd.code = .ref c ∧ C.G.K.lookup c = some o ∧ o.data = .fields vs ∧ vs[1]? = some (.str fd.qualname t)
  binds : ∀ vs : List Value, vs.length = ps.length → bindArgs fd ⟨vs, []⟩ = pure ((ps.map Str.ofString).zip vs)
  nodup : (ps.map Str.ofString).Nodup
  loc : ∀ p ∈ ps, sc.names.lookup (Str.ofString p) = some .local

section
variable {C : Cx} {sc : Scope}

theorem AOk.deeper {d d' : Nat} {A : Around} {env : Env} (h : AOk d A) (hd : d' < d) : AOk d' (A.deeper env) := by
  obtain ⟨h1, h2, h3⟩ := h
  refine ⟨h1, ?_, ?_⟩
  · show A.depth + 1 + d' ≤ 900; omega
  · show A.units + 3 + 20 * d' ≤ 9000; omega

theorem zip_fst {α β : Type} : ∀ (l : List α) (m : List β), l.length = m.length → (l.zip m).map (·.1) = l
  | [], _, _ => rfl
  | a :: l, b :: m, h => by simp [zip_fst l m (by simpa using h)]

theorem CallOk.def {f : Addr} {fd : FuncData} {ps : List String} {body : List Stmt} {b : SW} {sc' : Scope} {d' : Nat} (D : DefAt C f fd ps body sc') (hd : d' < C.d) (hcell : ∀ x ∈ sc'.names, x.2 ≠ .cell)
    (hb : ∀ C' : Cx, C'.G = C.G → C'.d = d' → C'.cd = fd.code → C'.qual = fd.qualname ++ ".<locals>." → C'.cl = [] → C'.ci = (fun _ => none) → EX C' sc' body b) : CallOk C (.ref f) (wFn ps b) := fun A s σ st Xs vs Q hA I hT hv h => by
  obtain ⟨hlen, h⟩ := h
  obtain ⟨o, ho, hfd⟩ := D.ob
  obtain ⟨m, F, _⟩ := I.fr
  have K := I.ok.k.keeps F.keep
  have hsc := D.esc
  have hvl : vs.length = ps.length := by rw [hv.len]; exact hlen
  have hzf : ((ps.map Str.ofString).zip vs).map (·.1) = ps.map Str.ofString := zip_fst _ _ (by simp [hvl])
  refine wpAny_call (codeAny_call_def (fd := fd) (body := body) (binds := (ps.map Str.ofString).zip vs) (by show A.depth < recursionLimit; have := hA.2.1; unfold recursionLimit; omega) (K _ _ ho) hfd (I.ok.lim.keeps F.keep) ?_ D.body
    (BindsTo.of_eq (D.binds vs hvl)) (by rw [hsc]; exact hcell) ?_ (fun h₁ hns hk₁ => ?_) (by rw [hsc]; exact D.coro) (by rw [hsc]; exact D.gen) (by rw [hsc]; exact D.kind))
  · obtain ⟨c, oc, ws, t, e1, e2, e3, e4⟩ := D.code
    exact ⟨c, oc, ws, t, e1, K _ _ e2, e3, e4⟩
  · intro x hx
    rw [hsc]
    have : x.1 ∈ ((ps.map Str.ofString).zip vs).map (·.1) := List.mem_map_of_mem hx
    rw [hzf] at this
    obtain ⟨p, hp, e⟩ := List.mem_map.mp this
    rw [← e]; exact D.loc p hp
  · have hns' : h₁.Ns s.heap.objs.size (fun y => ((ps.map Str.ofString).zip vs).lookup y) := by
      have e : (fun x => ((ps.map Str.ofString).zip vs).reverse.lookup x) = fun y => ((ps.map Str.ofString).zip vs).lookup y := by
        funext x; exact lookup_rev (by rw [hzf]; exact D.nodup) x
      rw [← e]; exact hns
    have J := I.enter (d := d') (cd := fd.code) (q := fd.qualname ++ ".<locals>.") hns' hk₁ (binds_locR hv hlen)
    have hE : EnvAt (C.sub s.heap st.sto.length d' fd.code (fd.qualname ++ ".<locals>.")) sc' (callEnv fd s.heap.objs.size f) :=
      ⟨hsc, rfl, D.glob, D.blt, D.kind, rfl, rfl, D.clo⟩
    have key := hb (C.sub s.heap st.sto.length d' fd.code (fd.qualname ++ ".<locals>.")) rfl rfl rfl rfl rfl rfl (callEnv fd s.heap.objs.size f) (A.deeper (callEnv fd s.heap.objs.size f)) { s with heap := h₁, toks := s.toks + ((ps.map Str.ofString).zip vs).length } σ _ _ hE (hA.deeper hd) J (Nat.le_add_right_of_le hT) h
    refine falso (wpAny_mono key (fun fl s' hp => ?_) fun _ _ e => e)
    obtain ⟨σ', FL, st', e', hF, J', hq⟩ := hp
    have I' := I.leave J' e'
    cases FL with
    | next => cases hF; exact ⟨σ', .none, _, e', rfl, I', hq⟩
    | brk => cases hF; exact ⟨σ', .none, _, e', rfl, I', hq⟩
    | cont => cases hF; exact ⟨σ', .none, _, e', rfl, I', hq⟩
    | ret X => obtain ⟨v, rfl, hv⟩ := hF; exact ⟨σ', X, _, e', hv, I', hq⟩

/- names that are cells -/
theorem EV.nameCell {x : String} {p : Pos} (hl : sc.names.lookup (Str.ofString x) = some .cell) (hd : (Str.ofString x == ("__debug__" : Str)) = false) :
    EV C sc (.Name (Str.ofString x) p) (fun st Q => ∃ k X, C.ci x = some k ∧ st.sto[k]? = some (.cell (some X)) ∧ Q X st) := fun env A s σ st Q he hA I hT h => by
  obtain ⟨k, X, hk, hX, hq⟩ := h
  obtain ⟨a, ha, hc⟩ := I.cel x k hk
  obtain ⟨a', ob, f1, f2, v, f3, f4⟩ := I.obj _ _ hX
  rw [ha] at f1; cases f1
  exact wpAny_Name (wpAny_loadName_cell (by rw [he.esc]; exact he.kind) (by unfold Env.kindOf; rw [he.esc]; exact hl) (by rw [he.cells]; exact hc) ⟨ob, f2, f3⟩ ⟨σ, X, st, Ext.rfl', f4, I, hq⟩) hd
theorem ES.assignCell {x : String} {p p' : Pos} {e : Expr} {a : EW} (he : EV C sc e a) (hl : sc.names.lookup (Str.ofString x) = some .cell) (hs : ∀ env, swapsWith e (some (.Name (Str.ofString x) p')) p.line env = pure false) :
    ES C sc (.Assign [.Name (Str.ofString x) p'] e p) (fun st Q => a st fun X st1 => ∃ k Y, C.ci x = some k ∧ st1.nb ≤ k ∧ st1.sto[k]? = some (.cell Y) ∧ Q .next (st1.upd k (.cell (some X)))) := fun env A s σ st Q hn hA I hT h => by
  refine wpAny_Assign_Name (tmono hT (he env A s σ st _ hn hA I hT h) (fun v s1 t1 h1 => ?_) fun _ _ e => e) (hs env)
  obtain ⟨σ1, X, st1, e1, hX, I1, k, Y, hk, hnb, hY, h1⟩ := h1
  obtain ⟨a, ha, hc⟩ := I1.cel x k hk
  obtain ⟨a', ob, f1, f2, f3⟩ := I1.obj _ _ hY
  rw [ha] at f1; cases f1
  have hcell : ∃ w, ob.data = .cell w := by
    cases Y with
    | none => exact ⟨none, f3⟩
    | some Y => obtain ⟨v, f3, _⟩ := f3; exact ⟨_, f3⟩
  obtain ⟨w, hw⟩ := hcell
  refine wpAny_storeName_cell (by rw [hn.esc]; exact hn.kind) (by unfold Env.kindOf; rw [hn.esc]; exact hl) (by rw [hn.cells]; exact hc) ⟨ob, f2, hw⟩ fun h' hv hs => ?_
  obtain ⟨ob', g1, g2⟩ := hv
  exact ⟨σ1, .next, _, e1, rfl, I1.updObj (o := .cell (some X)) ha hnb f2 (by rw [hw]; simp) hs g1 ⟨v, g2, hX⟩, h1⟩
end
def compW (k : Nat) (xs : List V) (x : String) (e : EW) (loc : String → Option V) : List V → List V → St → (V → St → Prop) → Prop
  | [], acc, st, Q => st.sto[k]? = some (.list xs) ∧ acc.length ≤ 16777216 ∧ Q (.ref st.sto.length) ⟨loc, st.sto ++ [.list acc], st.nb⟩
  | X :: r, acc, st, Q => st.sto[k]? = some (.list xs) ∧ acc.length ≤ 16777216 ∧ e ⟨fun y => if y = x then some X else none, st.sto, st.nb⟩ fun Y st' => compW k xs x e loc r (acc ++ [Y]) ⟨loc, st'.sto, st'.nb⟩ Q
def wComp (x : String) (a e : EW) : EW := fun st Q => a st fun X st1 => ∃ k xs, X = .ref k ∧ st1.sto[k]? = some (.list xs) ∧ compW k xs x e st1.loc xs [] st1 Q

section
variable {C : Cx} {sc : Scope}

/-- into a comprehension's block -/
theorem Inv.block {σ : List Addr} {st : St} {h : Heap} {g : Array GenState} {os : OsState} (I : Inv C σ st h g os) {L2 Ia D : Addr} {oI oD : Obj} {m2 : Str → Option Value} {loc : String → Option V} {cl : List (Str × Addr)} {ci : String → Option Nat}
    (hL2 : Fresh C σ L2) (hI : Fresh C σ Ia) (hD : Fresh C σ D) (hab : C.base.objs.size ≤ L2) (hn : h.Ns L2 m2) (hl : LocR σ loc m2) (hIL : Ia ≠ L2) (hDL : D ≠ L2) (hoI : h.get? Ia = some oI) (hoD : h.get? D = some oD)
    (hci : ∀ (x : String) (k : Nat), ci x = some k → ∃ a : Addr, σ[k]? = some a ∧ cl.lookup (Str.ofString x) = some a) :
    ∃ oL, h.get? C.L = some oL ∧ Inv { C with L := L2, pins := (Ia, oI) :: (D, oD) :: (C.L, oL) :: C.pins, cl := cl, ci := ci } σ ⟨loc, st.sto, st.nb⟩ h g os := by
  obtain ⟨m, F, l⟩ := I.fr
  obtain ⟨oL, es, ep, hL, _⟩ := id F.ns
  refine ⟨oL, hL, ⟨⟨I.ok.g, I.ok.b, I.ok.lim, I.ok.k, I.ok.boot, I.ok.bmain, I.ok.noP, I.ok.PL⟩, ⟨m2, ⟨hn, F.keep, hab⟩, hl⟩, I.len, I.nd, I.obj, fun a ha => ⟨fun q => hL2.1 (by have q' : a = L2 := q; rw [← q']; exact ha), (I.ne a ha).2⟩, I.own, I.tab, I.gens, I.eos, I.enb, fun p hp => ?_, hci⟩⟩
  rcases List.mem_cons.mp hp with rfl | hp
  · exact ⟨hoI, hI.1, hIL, hI.2.2.1⟩
  rcases List.mem_cons.mp hp with rfl | hp
  · exact ⟨hoD, hD.1, hDL, hD.2.2.1⟩
  rcases List.mem_cons.mp hp with rfl | hp
  · exact ⟨hL, fun q => (I.ne _ q).1 rfl, Ne.symm hL2.2.1, Ne.symm (Nat.ne_of_lt I.P_lt)⟩
  · exact ⟨(I.pin p hp).1, (I.pin p hp).2.1, hL2.2.2.2.2 p hp, (I.pin p hp).2.2.2⟩

/-- and out of it -/
theorem Inv.unblock {σ σ' : List Addr} {st st' : St} {h h' : Heap} {g g' : Array GenState} {os os' : OsState} (I : Inv C σ st h g os) {L2 Ia D : Addr} {oI oD oL : Obj} {cl : List (Str × Addr)} {ci : String → Option Nat} (hoL : h.get? C.L = some oL) (e : Ext σ σ')
    (J : Inv { C with L := L2, pins := (Ia, oI) :: (D, oD) :: (C.L, oL) :: C.pins, cl := cl, ci := ci } σ' st' h' g' os') :
    Inv C σ' ⟨st.loc, st'.sto, st'.nb⟩ h' g' os' ∧ h'.get? Ia = some oI ∧ h'.get? D = some oD ∧ Ia ∉ σ' ∧ D ∉ σ' ∧ L2 ∉ σ' ∧ ∃ m, h'.Ns L2 m := by
  obtain ⟨m2, F2, _⟩ := J.fr
  obtain ⟨m, F, l⟩ := I.fr
  have pL := J.pin (C.L, oL) (List.mem_cons_of_mem _ (List.mem_cons_of_mem _ (List.mem_cons_self ..)))
  have pI := J.pin (Ia, oI) (List.mem_cons_self ..)
  have pD := J.pin (D, oD) (List.mem_cons_of_mem _ (List.mem_cons_self ..))
  refine ⟨⟨I.ok, ⟨m, ⟨?_, F2.keep, F.above⟩, fun x X q => let ⟨v, e1, e2⟩ := l x X q; ⟨v, e1, e2.ext e⟩⟩, J.len, J.nd, J.obj, fun a ha => ⟨fun q => pL.2.1 (q ▸ ha), (J.ne a ha).2⟩, J.own, J.tab, J.gens, J.eos, J.enb, fun p hp => ?_, fun x k q => let ⟨b, h1, h2⟩ := I.cel x k q; ⟨b, e k b h1, h2⟩⟩, pI.1, pD.1, pI.2.1, pD.2.1, fun q => (J.ne _ q).1 rfl, m2, F2.ns⟩
  · obtain ⟨o, es, ep, ho, r⟩ := F.ns
    rw [hoL] at ho; cases ho
    exact ⟨oL, es, ep, pL.1, r⟩
  · have := J.pin p (List.mem_cons_of_mem _ (List.mem_cons_of_mem _ (List.mem_cons_of_mem _ hp)))
    exact ⟨this.1, this.2.1, (I.pin p hp).2.2.1, this.2.2.2⟩

theorem ns_data {h : Heap} {a : Addr} {m : Str → Option Value} (hn : h.Ns a m) : ∃ o, h.get? a = some o ∧ ∀ ws, o.data ≠ .fields ws := by
  obtain ⟨o, es, ep, ho, hd, _⟩ := hn
  exact ⟨o, ho, fun ws q => by rw [hd] at q; cases q⟩

theorem comp_core {elt iter : Expr} {x : String} {px pos : Pos} {scope sc' : Scope} {a e : EW} {ci : String → Option Nat} {use : Option (Value → Sem Unit)} {QQ : Value → Shared → Prop} {cpos : Pos} {env : Env} {A : Around} {s : Shared} {σ : List Addr} {st : St} {Q : V → St → Prop} (hi : EV C sc iter a) (hkind : scope.kind = .function) (hcell : ∀ y ∈ scope.names, y.2 ≠ .cell) (hnames : ∀ y ∈ scope.names, y.2 = .local → scope.names.lookup y.1 = some .local)
    (hx : sc'.names.lookup (Str.ofString x) = some .local) (hk' : sc'.kind = .function) (hrel : ∀ env, EnvAt C sc env → relabel scope env = sc')
    (hclos : ∀ env (σ : List Addr) (st : St) (s : Shared), EnvAt C sc env → InvS C σ st s → ∃ cl : List (Str × Addr), closureFor scope env = pure cl ∧ ∀ (y : String) (k : Nat), ci y = some k → ∃ b : Addr, σ[k]? = some b ∧ cl.lookup (Str.ofString y) = some b)
    (he : ∀ C' : Cx, C'.G = C.G → C'.d = C.d → C'.cd = C.cd → C'.qual = C.qual → C'.nb = C.nb → C'.ci = ci → EV C' sc' elt e) (hs : ∀ env x, foldedSetIterable iter env x = pure x)
    (hn : EnvAt C sc env) (hA : AOk C.d A) (I : InvS C σ st s) (hT : 1 ≤ s.toks) (h : wComp x a e st Q)
    (hfin : ∀ (D L2 : Addr) (σ2 : List Addr) (st2 : St) (k : Nat) (s2 : Shared) (m2 : Str → Option Value) (f : Flow), Ext σ σ2 → VR σ2 (.ref k) (.ref D) → InvS C σ2 st2 s2 → s2.heap.Ns L2 m2 → Fresh C σ2 L2 → Q (.ref k) st2 → compPost (model C.G.prog C.G.w) A Bot use QQ (.ref D) L2 (.ok f) s2) :
    wpAny (model C.G.prog C.G.w) A (comprehension (.ListComp elt [⟨.Name (Str.ofString x) px, iter, [], 0⟩] scope pos) scope env cpos (newList []) false (eval iter env) use) QQ Bot s := by
  obtain ⟨cl0, hc0, _⟩ := hclos env σ st s hn I
  refine wpAny_comprehension_free (use := use) (cl := cl0) rfl (hs env) hc0 hkind hnames ?_
  refine tmono hT (hi env A s σ st _ hn hA I hT h) (fun v s1 t1 h1 => ?_) fun _ _ e => e
  obtain ⟨σ1, X, st1, e1, hX, I1, k, xs, rfl, hxs, h1⟩ := h1
  obtain ⟨l, hl, rfl⟩ := hX
  obtain ⟨cl, hcl, hci⟩ := hclos env σ1 st1 s1 hn I1
  have hce : cl = cl0 := by have := hcl.symm.trans hc0; exact Sem.pure.inj this
  subst hce
  obtain ⟨a', ob, f1, f2, vs, n, rfl, hv⟩ := I1.obj _ _ hxs
  rw [hl] at f1; cases f1
  refine wpAny_pyIter_list ⟨_, f2, rfl, n, rfl⟩ ?_
  -- the iterator, the list, the block's names
  obtain ⟨Ia, hIa⟩ : ∃ q, q = s1.heap.objs.size := ⟨_, rfl⟩
  have hfI : Fresh C σ1 Ia := I1.fresh (Nat.le_of_eq hIa.symm)
  have I2 := I1.heapPush { cls := .type "list_iterator", data := .fields #[.ref l, .int 0 0] }
  refine wpAny_newObj_type ?_ (by show (0 : Nat) ≤ sizeLine; exact Nat.zero_le _)
  obtain ⟨H2, hH2⟩ : ∃ q, q = s1.heap.push { cls := .type "list_iterator", data := .fields #[.ref l, .int 0 0] } := ⟨_, rfl⟩
  show wpAny _ A _ _ Bot { s1 with heap := (s1.heap.push { cls := .type "list_iterator", data := .fields #[.ref l, .int 0 0] }).push { cls := .type "list", data := .seq #[] } }
  rw [← hH2] at I2 ⊢
  have I3 := I2.heapPush { cls := .type "list", data := .seq #[] }
  obtain ⟨D, hDa⟩ : ∃ q, q = H2.objs.size := ⟨_, rfl⟩
  obtain ⟨H3, hH3⟩ : ∃ q, q = H2.push { cls := .type "list", data := .seq #[] } := ⟨_, rfl⟩
  have hfD : Fresh C σ1 D := I2.fresh (Nat.le_of_eq hDa.symm)
  have hs2 : H2.objs.size = s1.heap.objs.size + 1 := by rw [hH2, Heap.size_push]
  have hs3 : H3.objs.size = H2.objs.size + 1 := by rw [hH3, Heap.size_push]
  rw [← hH3] at I3 ⊢
  refine wpAny_newFunctionEnv hcell (by intro y hy; simp at hy) (fun h₁ hns₁ hsb₁ => ?_) hkind
  obtain ⟨L2, hL2⟩ : ∃ q, q = H3.objs.size := ⟨_, rfl⟩
  have hfL : Fresh C σ1 L2 := I3.fresh (Nat.le_of_eq hL2.symm)
  have hIL : Ia ≠ L2 := by rw [hIa, hL2, hs3, hs2]; exact Nat.ne_of_lt (Nat.lt_succ_of_lt (Nat.lt_succ_self _))
  have hDL : D ≠ L2 := by rw [hDa, hL2, hs3]; exact Nat.ne_of_lt (Nat.lt_succ_self _)
  have hID : Ia ≠ D := by rw [hIa, hDa, hs2]; exact Nat.ne_of_lt (Nat.lt_succ_self _)
  have hk₁ : ∀ b o, H3.get? b = some o → h₁.get? b = some o := fun b o q => hsb₁.extBut b o (Nat.ne_of_lt (Heap.lt_size q)) (Heap.get?_push_of_some _ q)
  have I4 : Inv C σ1 st1 h₁ s1.gens s1.os := I3.keeps hk₁
  have hab : C.base.objs.size ≤ L2 := by
    obtain ⟨m, F, _⟩ := I3.fr
    rw [hL2]; exact Nat.le_trans F.above (Nat.le_of_lt F.ns.lt)
  rw [← hDa]
  rw [← hL2] at hns₁ ⊢
  have hoI : h₁.get? Ia = some { cls := .type "list_iterator", data := .fields #[.ref l, .int 0 0] } := hk₁ _ _ (by rw [hH3]; exact Heap.get?_push_of_some _ (by rw [hH2, hIa]; exact Heap.get?_push_size _ rfl))
  have hoD : h₁.get? D = some { cls := .type "list", data := .seq #[] } := hk₁ _ _ (by rw [hH3, hDa]; exact Heap.get?_push_size _ rfl)
  obtain ⟨ce, hce⟩ : ∃ q : Env, q = { (newEnv scope L2 env.globals cl env.qual none .none (some env) builtinsNs) with scope := relabel scope env } := ⟨_, rfl⟩
  have c1 : ce.scope = sc' := by rw [hce]; exact hrel env hn
  have c2 : ce.locals = L2 := by rw [hce]; rfl
  have c3 : ce.globals = mainGlobals := by rw [hce]; exact hn.glob
  have c4 : ce.builtins = builtinsNs := by rw [hce]; exact hn.blt
  have c5 : ce.code = C.cd := by rw [hce]; exact hn.code
  have c6 : ce.qual = C.qual := by rw [hce]; exact hn.qual
  have c7 : ce.cells = cl := by rw [hce]; rfl
  rw [← hce, ← hIa]
  show codeAny _ A _ (compPost _ _ _ _ _ _ L2) _
  have loop : ∀ n, n = xs.length → codeAny (model C.G.prog C.G.w) A (.compLoop (.ListComp elt [⟨.Name (Str.ofString x) px, iter, [], 0⟩] scope pos) 0 (.ref Ia) (.ref D) ce)
      (compPost (model C.G.prog C.G.w) A Bot use QQ (.ref D) L2) { s1 with heap := h₁, toks := s1.toks + ([] : List (Str × Value)).length } := by
    intro n hn0
    refine codeAny_compLoop_tests (fun n s' => ∃ σ' st' i acc vs, Ext σ1 σ' ∧ InvS C σ' st' s' ∧ st'.loc = st1.loc ∧ 1 ≤ s'.toks ∧ (∃ o, s'.heap.get? Ia = some o ∧ RList l i o) ∧ (∃ m, s'.heap.Ns L2 m) ∧ s'.heap.PlainList D (List.toArray vs) ∧ VRs σ' acc vs
      ∧ Fresh C σ' Ia ∧ Fresh C σ' D ∧ Fresh C σ' L2 ∧ i ≤ xs.length ∧ xs.length - i = n ∧ compW k xs x e st1.loc (xs.drop i) acc st' Q) ?_ n
      ⟨σ1, st1, 0, [], [], Ext.rfl', I4, rfl, t1, ⟨_, hoI, rfl, rfl⟩, ⟨_, hns₁⟩, ⟨0, hoD⟩, rfl, hfI, hfD, hfL, Nat.zero_le _, hn0.symm, by simpa using h1⟩
    rintro n s' ⟨σ', st', i, acc, ws, e', I', hloc, t', hoI', ⟨m', hns'⟩, hD', hacc, fI, fD, fL, hi', hni, hw⟩
    have hl' := e' k l hl
    by_cases hlt : i < xs.length
    · have hX : xs[i]? = some xs[i] := List.getElem?_eq_getElem hlt
      have hd : xs.drop i = xs[i] :: xs.drop (i + 1) := List.drop_eq_getElem_cons hlt
      rw [hd] at hw
      obtain ⟨hc, hal, hw⟩ := hw
      obtain ⟨oi, hoi1, hoi2⟩ := hoI'
      refine falso (tmono t' ((protList hA.1 Ia l k xs σ' hl').next i σ' st' s' _ (fun r s2 => ∃ v h2 tk, r = some v ∧ s2 = { s' with heap := h2, toks := tk } ∧ VR σ' xs[i] v ∧ (∃ o, h2.get? Ia = some o ∧ RList l (i + 1) o) ∧ Heap.ExtBut Ia s'.heap h2) Ext.rfl' ⟨oi, hoi1, hoi2⟩ I' hc hX fun v h2 tk hv ho2 hk2 => ⟨v, h2, tk, rfl, rfl, hv, ho2, hk2⟩) (fun r s2 t2 h2 => ?_) fun _ _ e => e)
      obtain ⟨v, h2, tk, rfl, rfl, hv2, ho2, hk2⟩ := h2
      have I2' : InvS C σ' st' { s' with heap := h2, toks := tk } := I'.apart hk2 fI.1 fI.2.1 fI.2.2.1 fI.2.2.2.1 fI.2.2.2.2 hoi1 (.inl (by rw [hoi2.1]; simp))
      have hns2 := hns'.extBut hk2 (Ne.symm hIL)
      have hD2 : h2.PlainList D (List.toArray ws) := let ⟨q, hq⟩ := hD'; ⟨q, hk2 _ _ (Ne.symm hID) hq⟩
      refine wpAny_assign_Name (wpAny_storeName_local (m := m') ?_ (by rw [c2]; exact hns2) (fun h3 hns3 hs3 => ?_) ?_)
      · unfold Env.kindOf
        rw [c1]; exact hx
      · rw [c2] at hns3 hs3
        obtain ⟨oL2, hoL2, hdL2⟩ := ns_data hns2
        have I3' : InvS C σ' st' { s' with heap := h3, toks := tk + 1 } := I2'.apart hs3.extBut fL.1 fL.2.1 fL.2.2.1 fL.2.2.2.1 fL.2.2.2.2 hoL2 (.inr hdL2)
        obtain ⟨o2, ho2a, ho2b⟩ := ho2
        have hoI3 : h3.get? Ia = some o2 := (hs3.2 _ hIL).trans ho2a
        obtain ⟨q3, hq3⟩ := hD2
        have hoD3 : h3.get? D = some { cls := .type "list", data := .seq (List.toArray ws) q3 } := (hs3.2 _ hDL).trans hq3
        have hIab : C.base.objs.size ≤ L2 := hab
        have hlr : LocR σ' (fun y => if y = x then some xs[i] else none) (fun y => if y = Str.ofString x then some v else m' y) := LocR.set (loc := fun _ => none) (fun _ _ e => nomatch e) hv2
        obtain ⟨oL, hoL, IB⟩ := I3'.block (loc := fun y => if y = x then some xs[i] else none) (cl := cl) (ci := ci) fL fI fD hIab hns3 hlr hIL hDL hoI3 hoD3 (fun y j hj => let ⟨b, g1, g2⟩ := hci y j hj; ⟨b, e' j b g1, g2⟩)
        refine wpAny_pure ?_
        simp only [if_true]
        have henv : EnvAt { C with L := L2, pins := (Ia, o2) :: (D, { cls := .type "list", data := .seq (List.toArray ws) q3 }) :: (C.L, oL) :: C.pins, cl := cl, ci := ci } sc' ce :=
          ⟨c1, c2, c3, c4, hk', c5, c6, c7⟩
        refine falso (tmono (Nat.le_succ_of_le t2) (he { C with L := L2, pins := (Ia, o2) :: (D, { cls := .type "list", data := .seq (List.toArray ws) q3 }) :: (C.L, oL) :: C.pins, cl := cl, ci := ci } rfl rfl rfl rfl rfl rfl _ A { s' with heap := h3, toks := tk + 1 } σ' _ _ henv hA IB (Nat.le_succ_of_le t2) hw) (fun y s4 t4 h4 => ?_) fun _ _ e => e)
        obtain ⟨σ4, Y, st4, e4, hY, I4', hw4⟩ := h4
        obtain ⟨I5, g1, g2, g3, g4, g5, m5, g6⟩ := I3'.unblock hoL e4 I4'
        refine wpAny_list_append_plain ⟨q3, g2⟩ (fun h5 hD5 hs5 => ?_) (by rw [sizeLine_val]; simp [hacc.len]; exact hal)
        have I6 : InvS C σ4 ⟨st'.loc, st4.sto, st4.nb⟩ { s4 with heap := h5 } := I5.apart hs5.extBut g4 fD.2.1 fD.2.2.1 fD.2.2.2.1 fD.2.2.2.2 g2 (.inl (by simp))
        have hst4 : (⟨st'.loc, st4.sto, st4.nb⟩ : St) = ⟨st1.loc, st4.sto, st4.nb⟩ := by rw [hloc]
        refine ⟨xs.length - (i + 1), by omega, σ4, ⟨st'.loc, st4.sto, st4.nb⟩, i + 1, acc ++ [Y], ws ++ [y], e'.trans e4, I6, hloc, t4, ⟨o2, (hs5.2 _ hID).trans g1, ho2b⟩, ⟨m5, g6.sameBut hs5 (Ne.symm hDL)⟩, by simpa using hD5, (hacc.ext e4).append ⟨y, [], rfl, hY, rfl⟩, ⟨g3, fI.2⟩, ⟨g4, fD.2⟩, ⟨g5, fL.2⟩, by omega, rfl, ?_⟩
        rw [hst4]
        exact hw4
      · rw [c1, hk']; rfl
    · have hi2 : i = xs.length := by omega
      subst hi2
      rw [List.drop_length] at hw
      obtain ⟨hc, hal, hq⟩ := hw
      obtain ⟨oi, hoi1, hoi2⟩ := hoI'
      refine falso ((protList hA.1 Ia l k xs σ' hl').done σ' st' s' _ Ext.rfl' ⟨oi, hoi1, hoi2⟩ I' hc fun h2 tk hk2 => ?_)
      have I2' : InvS C σ' st' { s' with heap := h2, toks := tk } := I'.apart hk2 fI.1 fI.2.1 fI.2.2.1 fI.2.2.2.1 fI.2.2.2.2 hoi1 (.inl (by rw [hoi2.1]; simp))
      have hns2 := hns'.extBut hk2 (Ne.symm hIL)
      obtain ⟨q, hq'⟩ := hD'
      have hD2 : h2.get? D = some { cls := .type "list", data := .seq (List.toArray ws) q } := hk2 _ _ (Ne.symm hID) hq'
      have I5 := I2'.adopt (o := .list acc) fD.1 fD.2.1 fD.2.2.1 fD.2.2.2.1 fD.2.2.2.2 hD2 ⟨ws, q, rfl, hacc.ext (Ext.app _ _)⟩
      have hL2n : L2 ∉ σ' ++ [D] := fun z => by
        rcases List.mem_append.mp z with z | z
        · exact fL.1 z
        · exact hDL (by simpa using z : L2 = D).symm
      have hst : (St.push st' (.list acc)) = ⟨st1.loc, st'.sto ++ [.list acc], st'.nb⟩ := by unfold St.push; rw [hloc]
      rw [hst] at I5
      exact hfin D L2 (σ' ++ [D]) _ st'.sto.length { s' with heap := h2, toks := tk } m' .next (e1.trans (e'.trans (Ext.app _ _))) ⟨D, by rw [← I'.len]; simp, rfl⟩ I5 hns2 ⟨hL2n, fL.2⟩ hq
  exact codeAny_compStart_list (loop _ rfl) (wpAny_pyIter_listiter ⟨_, hoI, rfl, rfl⟩ (loop _ rfl))
theorem comp_any {elt iter : Expr} {x : String} {px pos : Pos} {scope sc' : Scope} {a e : EW} {ci : String → Option Nat} (hi : EV C sc iter a) (hkind : scope.kind = .function) (hcell : ∀ y ∈ scope.names, y.2 ≠ .cell) (hnames : ∀ y ∈ scope.names, y.2 = .local → scope.names.lookup y.1 = some .local)
    (hx : sc'.names.lookup (Str.ofString x) = some .local) (hk' : sc'.kind = .function) (hrel : ∀ env, EnvAt C sc env → relabel scope env = sc')
    (hclos : ∀ env (σ : List Addr) (st : St) (s : Shared), EnvAt C sc env → InvS C σ st s → ∃ cl : List (Str × Addr), closureFor scope env = pure cl ∧ ∀ (y : String) (k : Nat), ci y = some k → ∃ b : Addr, σ[k]? = some b ∧ cl.lookup (Str.ofString y) = some b)
    (he : ∀ C' : Cx, C'.G = C.G → C'.d = C.d → C'.cd = C.cd → C'.qual = C.qual → C'.nb = C.nb → C'.ci = ci → EV C' sc' elt e) (hs : ∀ env x, foldedSetIterable iter env x = pure x) :
    EV C sc (.ListComp elt [⟨.Name (Str.ofString x) px, iter, [], 0⟩] scope pos) (wComp x a e) := fun env A s σ st Q hn hA I hT h => by
  rw [eval_ListComp]
  refine comp_core hi hkind hcell hnames hx hk' hrel hclos he hs hn hA I hT h fun D L2 σ2 st2 k s2 m2 f e2 hv I2 hns hf hq => ⟨m2, hns, fun h3 hs3 => ?_⟩
  obtain ⟨oL, hoL, hdL⟩ := ns_data hns
  exact ⟨σ2, .ref k, st2, e2, hv, I2.apart hs3.extBut hf.1 hf.2.1 hf.2.2.1 hf.2.2.2.1 hf.2.2.2.2 hoL (.inr hdL), hq⟩
end
theorem relabel_plain {scope : Scope} {env : Env} (h : ∀ y ∈ scope.names, y.2 ≠ .free) : relabel scope env = scope := by
  unfold relabel
  have : scope.names.map (fun (n, k) => if (k == NameKind.free && env.scope.kind == .function && env.kindOf n == some .cell) then (n, NameKind.cell) else (n, k)) = scope.names := by
    conv => rhs; rw [← List.map_id scope.names]
    refine List.map_congr_left fun y hy => ?_
    have := h y hy
    have h2 : (y.2 == NameKind.free) = false := by simpa using this
    obtain ⟨n, k⟩ := y
    simp only at h2 this ⊢
    rw [h2]; rfl
  rw [this]

section
variable {C : Cx} {sc : Scope}
theorem EV.comp {elt iter : Expr} {x : String} {px pos : Pos} {scope : Scope} {a e : EW} (hi : EV C sc iter a)
    (he : ∀ C' : Cx, C'.G = C.G → C'.d = C.d → C'.cd = C.cd → C'.qual = C.qual → C'.nb = C.nb → C'.ci = (fun _ => none) → EV C' scope elt e)
    (hkind : scope.kind = .function := by rfl) (hcell : (scope.names.all fun y => y.2 == .local || y.2 == .globalImplicit) = true := by rfl) (hnames : (scope.names.all fun y => y.2 != .local || scope.names.lookup y.1 == some .local) = true := by decide)
    (hx : scope.names.lookup (Str.ofString x) = some .local := by rfl) (hs : ∀ env x, foldedSetIterable iter env x = pure x := by intros; rfl) :
    EV C sc (.ListComp elt [⟨.Name (Str.ofString x) px, iter, [], 0⟩] scope pos) (wComp x a e) := by
  have hc : ∀ y ∈ scope.names, y.2 = .local ∨ y.2 = .globalImplicit := fun y hy => by
    have := List.all_eq_true.mp hcell y hy
    simpa using this
  have hfree : ∀ y ∈ scope.names, y.2 ≠ .free := fun y hy q => by rcases hc y hy with h | h <;> rw [q] at h <;> cases h
  refine comp_any hi hkind (fun y hy q => by rcases hc y hy with h | h <;> rw [q] at h <;> cases h) (fun y hy q => ?_) hx hkind (fun env _ => relabel_plain hfree) (ci := fun _ => none)
    (fun env σ st s _ _ => ⟨[], closureFor_none hfree, fun y k h => nomatch h⟩) he hs
  have := List.all_eq_true.mp hnames y hy
  simp [q] at this
  exact this
end
theorem called_object : TypeCalled "object" "object.__new__" "object.__init__" :=
  ⟨by decide, by kernel_rfl, ⟨.type "object", [], by kernel_rfl⟩, by kernel_rfl, by decide +kernel, by kernel_rfl, F.slot_object_init⟩
theorem madeHere_object : Bind.madeHere "object.__new__" (.type "object") = pure () := by kernel_rfl
theorem refuses_object : ((Manifest.find? "object").elim false (·.mro.any fun t => (Manifest.find? t).elim false (·.noNew))) = false := by decide +kernel
theorem hasDict_object : typeHasDict (.type "object") = false := by decide +kernel
theorem dies_object : diesByItsTypesDel "object" = false := by decide +kernel
theorem typeCall_object : checkTypeCall "object" ⟨[], []⟩ = pure () := by kernel_rfl
theorem newCall_object : checkBuiltinCall "object.__new__" ⟨[.type "object"], []⟩ = pure () := by kernel_rfl

theorem object_new {prog : Program} {w : World} : MeetsIn prog w (Builtin.«object.__new__» ⟨[.type "object"], []⟩) (fun _ R s => R (.ok (.ret (.ref s.heap.objs.size))) { s with heap := s.heap.push { cls := .type "object" } }) := .of_wp fun A R s h => by
  have e : Builtin.«object.__new__» ⟨[.type "object"], []⟩ = (do
    Bind.madeHere "object.__new__" (.type "object")
    let d ← if typeHasDict (.type "object") then some <$> alloc { cls := .type "dict", data := .dict #[] } else pure none
    let v ← newObj (.type "object") .plain d
    if diesByItsTypesDel "object" then
      if let .ref a := v then register a
    ret v) := by
    show (do let b ← isType (.type "object"); _) = _
    have : isType (.type "object") = pure true := rfl
    rw [this]
    simp only [pure_bind, Bool.not_true, Bool.false_eq_true, if_false, refuses_object]
    rfl
  rw [e, madeHere_object, hasDict_object, dies_object]
  simp only [pure_bind, Bool.false_eq_true, if_false]
  refine wpAny_bind (wpAny_newObj_type ?_ trivial)
  exact wpAny_pure ⟨_, rfl, h⟩

section
variable {C : Cx} {sc : Scope}
def cObject : CW := fun Xs st Q => Xs = [] ∧ Q (.ref st.sto.length) (st.push .obj)
theorem CallOk.object : CallOk C (.type "object") cObject := fun A s σ st Xs vs Q hA I hT hv h => by
  obtain ⟨rfl, h⟩ := h
  cases hv
  refine callType_meetsIn (Q₁ := fun obj s₁ => s₁.TypeIs obj "object" ∧ PV C σ Q obj s₁) called_object typeCall_object newCall_object F.entry_object_new F.entry_object_init object_new ?_ fun obj s₁ hq => ?_
  · refine ⟨⟨_, Heap.get?_push_size _ rfl, rfl⟩, σ ++ [_], _, _, Ext.app _ _, I.newRef _, ?_, h⟩
    exact I.newObj (fun _ _ e => Heap.get?_push_of_some _ e) (Nat.le_refl _) (Heap.get?_push_size _ rfl) rfl
  · exact ⟨hq.1, F.args_object_init_1 _, fun A R s => R (.ok (.ret .none)) s, Meets.of_wp fun prog w A R s hs => wpAny_pure ⟨_, rfl, hs⟩, rfl, hq.2⟩
end
open Sem (wp)

theorem slot_md_get : Slot "method_descriptor" "__get__" "method_descriptor.__get__" :=
  .of (owner := "method_descriptor") (n := "__get__") (by rw [typeLookup_type, builtinLookup_eq_fast]; kernel_rfl) (by decide +kernel) (by decide +kernel) (by decide +kernel)
    (by first | exact .inl (by decide +kernel) | exact .inr (by decide +kernel)) (by rw [isSubtype_type]; kernel_rfl)
theorem md_set : typeLookup (.type "method_descriptor") "__set__" = pure none := by rw [typeLookup_type, builtinLookup_eq_fast]; kernel_rfl
theorem md_delete : typeLookup (.type "method_descriptor") "__delete__" = pure none := by rw [typeLookup_type, builtinLookup_eq_fast]; kernel_rfl
theorem entry_md_get : entryFor table "method_descriptor.__get__" = some Builtin.«method_descriptor.__get__» := entryFor_of_tree (by kernel_rfl)
theorem args_md_get (a b c : Value) : argsOk "method_descriptor.__get__" ⟨[a, b, c], []⟩ := by unfold argsOk; kernel_rfl
theorem lk_list_append : typeLookup (.type "list") "append" = pure (some (.builtin "list.append")) := by rw [typeLookup_type, builtinLookup_eq_fast]; kernel_rfl
theorem told_append : Manifest.toldItsClass.contains "list.append" = false := by decide +kernel
theorem owner_append : (".".intercalate ("list.append".cutAt '.').dropLast) = "list" := by
  have e0 : "list.append".cutAt '.' = ["list", "append"] := by first | rfl | decide +kernel
  rw [e0]; decide +kernel

section
variable {prog : Program} {w : World} {A : Around} {E : Value → Shared → Prop} {h : Heap} {g : Array GenState} {d : Drawn} {t : Nat} {os : OsState} {a : Addr} {o : Obj}
theorem append_get {R : Result → Shared → Prop} (hx : h.get? a = some o) (hc : o.cls = .type "list")
    (hq : R (.ok (.ret (.ref h.objs.size))) ⟨h.push { cls := .type "builtin_function_or_method", data := .fields #[.builtin "list.append", .ref a] }, g, d, t, os⟩) :
    codeAny (model prog w) A (.call (.builtin "method_descriptor.__get__") ⟨[.builtin "list.append", .ref a, .type "list"], []⟩) R ⟨h, g, d, t, os⟩ := by
  have hT : (⟨h, g, d, t, os⟩ : Shared).TypeIs (.ref a) "list" := ⟨_, hx, hc⟩
  have hT5 : (⟨h, g, d, t, os⟩ : Shared).TypeIs (.builtin "list.append") "method_descriptor" := F.type_list_append
  have f8 : isSubtype (.type "list") (.type (".".intercalate ("list.append".cutAt '.').dropLast)) = pure true := by rw [owner_append, isSubtype_type]; kernel_rfl
  have f9 := told_append
  refine codeAny_call_builtin slot_md_get.plain entry_md_get (slot_md_get.check _ _ _ _ _ _ _ _ hT5 (args_md_get _ _ _) ?_)
  unfold Builtin.«method_descriptor.__get__»
  refine wpAny_bind (wpAny_of_eq (a := (Value.builtin "list.append", some (Value.ref a), some (Value.type "list"))) (by first | rfl | kernel_rfl) ?_)
  simp only [f9, Bool.false_eq_true, if_false, pure_bind]
  show wpAny _ _ ((_ : Sem Unit) >>= fun _ => newFields "builtin_function_or_method" [.builtin "list.append", .ref a] >>= fun v => ret v) _ _ _
  refine wpAny_bind ?_
  show wpAny _ _ ((_ : Sem (Str × Value)) >>= fun _ => _) _ _ _
  refine wpAny_bind (wpAny_of_eq (a := (("append" : Str), Value.type "list")) (by first | rfl | kernel_rfl) ?_)
  dsimp only
  refine wpAny_bind (wpAny_isInstance hT (b := true) (by rw [isSubtype_type]; kernel_rfl) ?_)
  simp only [Bool.not_true, Bool.false_eq_true, if_false]
  refine wpAny_pure (wpAny_bind ?_)
  exact wpAny_newObj_type (wpAny_pure hq)

theorem append_entry {xs : Array Value} {k : Nat} {tk : Tok} {Q : Fin → Shared → Prop} (hx : h.get? a = some { cls := .type "list", data := .seq xs k })
    (hq : Q (.done (.ret (.ref h.objs.size))) ⟨h.push { cls := .type "builtin_function_or_method", data := .fields #[.builtin "list.append", .ref a] }, g, d, t, os⟩) :
    wpAny (model prog w) A (Builtin.«object.__getattribute__» ⟨[.ref a, .str "append" tk], []⟩) Q E ⟨h, g, d, t, os⟩ := by
  have hT : (⟨h, g, d, t, os⟩ : Shared).TypeIs (.ref a) "list" := ⟨_, hx, rfl⟩
  have hT5 : (⟨h, g, d, t, os⟩ : Shared).TypeIs (.builtin "list.append") "method_descriptor" := F.type_list_append
  have f4 := lk_list_append
  have f5 := F.type_list_append
  have f6 := slot_md_get.lookup
  have f7 := md_set
  have f8 := md_delete
  repeat (any_goals (first | assumption | wp_step))
  trace_state
  refine append_get hx rfl ?_
  repeat (any_goals (first | assumption | wp_step))
end
open Sem (wp)

section
variable {prog : Program} {w : World} {A : Around} {E : Value → Shared → Prop}
theorem append_call {h : Heap} {g : Array GenState} {d : Drawn} {t : Nat} {os : OsState} {a : Addr} {xs : Array Value} {k : Nat} {tk : Tok} {R : Result → Shared → Prop} (hx : h.get? a = some { cls := .type "list", data := .seq xs k })
    (hq : R (.ok (.ret (.ref h.objs.size))) ⟨h.push { cls := .type "builtin_function_or_method", data := .fields #[.builtin "list.append", .ref a] }, g, d, t, os⟩) :
    codeAny (model prog w) A (.call (.builtin "list.__getattribute__") ⟨[.ref a, .str "append" tk], []⟩) R ⟨h, g, d, t, os⟩ :=
  codeAny_call_builtin F.slot_list_getattribute.plain F.entry_list_ga (F.slot_list_getattribute.check _ _ _ _ _ _ _ _ (show (⟨h, g, d, t, os⟩ : Shared).TypeIs (.ref a) "list" from ⟨_, hx, rfl⟩) (F.args_list_getattribute_2 _ _) (append_entry hx hq))

theorem append_attr {s : Shared} {a : Addr} {xs : Array Value} {k : Nat} {Q : Value → Shared → Prop} (hx : s.heap.get? a = some { cls := .type "list", data := .seq xs k })
    (hq : Q (.ref s.heap.objs.size) { s with heap := s.heap.push { cls := .type "builtin_function_or_method", data := .fields #[.builtin "list.append", .ref a] }, toks := s.toks + 1 }) :
    wpAny (model prog w) A (getAttr (.ref a) "append" true) Q E s := by
  obtain ⟨h, g, d, t, os⟩ := s
  have hT : ∀ tk', (⟨h, g, d, tk', os⟩ : Shared).TypeIs (.ref a) "list" := fun _ => ⟨_, hx, rfl⟩
  have f3 := F.slot_list_getattribute.lookup
  have f4 := F.slot_list_getattribute.bind (.ref a)
  unfold getAttr getAttrBy
  repeat (any_goals (first | assumption | exact hT _ | wp_step))
  refine append_call hx ?_
  repeat (any_goals (first | assumption | wp_step))

theorem full_append : (toString (Bind.lastOf "list") ++ toString "." ++ toString (Bind.lastOf "list.append")) = "list.append" := by decide +kernel
theorem sig_append : ∃ sig, Manifest.signature? "list.append" = some sig ∧ ∀ a b, Bind.checkArgs "list.append" { sig with full := toString (Bind.lastOf "list") ++ toString "." ++ toString (Bind.lastOf "list.append") } ⟨[a, b], []⟩ = pure () :=
  ⟨_, signature?_of (id := "list.append") (n := ['d', 'n', 'e', 'p', 'p', 'a']) (o := ['t', 's', 'i', 'l']) (by kernel_rfl) F.owner_list, fun a b => by rw [full_append]; kernel_rfl⟩
theorem kind_append : builtinKind "list.append" = some .method := by decide +kernel
theorem varargs_append : Manifest.varargsMethods.contains "list.append" = false := by decide +kernel

theorem bound_call {s : Shared} {u a : Addr} {xs : Array Value} {k : Nat} {v : Value} {Q : Value → Shared → Prop} (hu : s.heap.get? u = some { cls := .type "builtin_function_or_method", data := .fields #[.builtin "list.append", .ref a] })
    (hx : s.heap.get? a = some { cls := .type "list", data := .seq xs k }) (hsz : xs.size ≤ sizeLine)
    (hq : ∀ h', h'.PlainList a (xs.push v) → Heap.SameBut a s.heap h' → Q .none { s with heap := h' }) : wpAny (model prog w) A (call (.ref u) [v]) Q E s := by
  refine wpAny_call (codeAny_of_tree ?_)
  show wpAny _ A.in1 (callAny (.ref u) ⟨[v], []⟩) _ _ s
  simp only [callAny]
  refine wpAny_bind (wpAny_load hu ?_)
  simp only [show (Value.type "builtin_function_or_method" == Value.type "method" || Value.type "builtin_function_or_method" == Value.type "builtin_function_or_method" || Value.type "builtin_function_or_method" == Value.type "method-wrapper") = true by decide, if_true]
  refine KFB.if_so (by decide) ?_
  have hT : s.TypeIs (.ref a) "list" := ⟨_, hx, rfl⟩
  obtain ⟨sig, hsig, hchk⟩ := sig_append
  refine wpAny_bind ?_
  unfold checkBoundCall
  simp only [hsig, kind_append, varargs_append]
  refine KFB.if_not (by decide) ?_
  refine wpAny_bind (wpAny_isInstance hT (b := false) (by rw [isSubtype_type]; kernel_rfl) ?_)
  simp only [Bool.or_false, Bool.false_eq_true, if_false]
  have hl2 : wpAny (model prog w) A.in1 (isType (.ref a)) (fun b s' => b = false ∧ s' = s) E s := by
    unfold isType loadHead
    exact wpAny_bind (wpAny_loadPart hx (wpAny_pure ⟨rfl, rfl⟩))
  refine wpAny_bind (wpAny_mono hl2 (fun b s' hb => ?_) fun _ _ e => e)
  obtain ⟨rfl, rfl⟩ := hb
  simp only [Bool.false_eq_true, if_false]
  refine wpAny_bind (wpAny_typeOf hT ?_)
  dsimp only
  refine wpAny_of_eq (a := ()) (hchk _ _) ?_
  refine wpAny_bind (wpAny_pure (wpAny_pure ?_))
  refine ⟨Code.quiet_builtin _ (by decide +kernel), codeAny_builtin entry_list_append ?_⟩
  show wpAny _ _ (updateSeq a (·.push v) >>= fun _ => ret .none) _ _ _
  refine wpAny_bind ?_
  refine wpAny_updateSeq hx rfl (wpAny_pure (hq _ ⟨k + 1, ?_⟩ (Heap.SameBut.update ..)))
  rw [Heap.get?_update_self _ hx (by rw [Obj.mapSeq_push_plain]; rfl), Obj.mapSeq_push_plain]
end
section
variable {C : Cx} {sc : Scope}
theorem EV.neg {i : Int} {k : Nat} {p p' : Pos} : EV C sc (.UnaryOp .USub (.Constant (.int i) k p) p') (wC (.int (-i))) := fun _ _ _ σ st _ _ _ I _ h =>
  UnaryOp_ (wpAny_Constant_int (neg_int ⟨σ, .int (-i), st, Ext.rfl', ⟨_, rfl⟩, I, h⟩))
def bNe (a b : EW) : BW := fun st Q => a st fun X st1 => b st1 fun Y st2 => ∃ x y, X = .str x ∧ Y = .str y ∧ Q (!(x == y)) st2
theorem EB.ne {l r : Expr} {p : Pos} {a b : EW} (hl : EV C sc l a) (hr : EV C sc r b) (hm : behindInMarks .NotEq r = false) : EB C sc (.Compare l [.NotEq] [r] p) (bNe a b) := fun env A s σ st Q he hA I hT h => by
  refine wpAny_isTrue_Compare1 (tmono hT (hl env A s σ st _ he hA I hT h) (fun x s1 t1 h1 => ?_) fun _ _ e => e) hm
  obtain ⟨σ1, X, st1, e1, hX, I1, h1⟩ := h1
  refine tmono t1 (hr env A s1 σ1 st1 _ he hA I1 t1 h1) (fun y s2 t2 h2 => ?_) fun _ _ e => e
  obtain ⟨σ2, Y, st2, e2, hY, I2, x, y, rfl, rfl, h2⟩ := h2
  obtain ⟨t, rfl⟩ := hX
  obtain ⟨u, rfl⟩ := hY
  refine PyProof.Rows.ne_str (wpAny_truthy_bool ⟨σ2, st2, e1.trans e2, I2, ?_⟩)
  have : ((⟨x.toArray⟩ : Str) != ⟨y.toArray⟩) = !(x == y) := by rw [bne, str_beq]
  rw [this]; exact h2

/- data: what a value reads as -/
mutual
def dat (sto : List O) : Nat → V → Option PyData
  | _, .none => some .none
  | _, .bool b => some (.bool b)
  | _, .int i => some (.int i)
  | _, .str x => some (.str ⟨x.toArray⟩)
  | 0, .ref _ => none
  | n + 1, .ref k => match sto[k]? with
    | some (.list xs) => (dats sto n xs).map .list
    | _ => none
termination_by n X => (n, 0)
def dats (sto : List O) (n : Nat) : List V → Option (List PyData)
  | [] => some []
  | X :: r => match dat sto n X, dats sto n r with
    | some d, some ds => some (d :: ds)
    | _, _ => none
termination_by xs => (n, xs.length + 1)
end
theorem reads_of {σ : List Addr} {st : St} {s : Shared} (I : InvS C σ st s) : ∀ n : Nat,
    (∀ (X : V) (d : PyData) (v : Value), dat st.sto n X = some d → VR σ X v → ∃ as, Reads s.heap v d as ∧ d.depth ≤ n) := by
  intro n
  induction n with
  | zero =>
    intro X d v h hv
    cases X with
    | none => unfold dat at h; cases h; cases hv; exact ⟨_, .none, by simp [PyData.depth]⟩
    | bool b => unfold dat at h; cases h; cases hv; exact ⟨_, .bool _, by simp [PyData.depth]⟩
    | int i => unfold dat at h; cases h; obtain ⟨t, rfl⟩ := hv; exact ⟨_, .int _ _, by simp [PyData.depth]⟩
    | str x => unfold dat at h; cases h; obtain ⟨t, rfl⟩ := hv; exact ⟨_, .str _ _, by simp [PyData.depth]⟩
    | ref k => unfold dat at h; cases h
  | succ n ih =>
    intro X d v h hv
    cases X with
    | none => unfold dat at h; cases h; cases hv; exact ⟨_, .none, by simp [PyData.depth]⟩
    | bool b => unfold dat at h; cases h; cases hv; exact ⟨_, .bool _, by simp [PyData.depth]⟩
    | int i => unfold dat at h; cases h; obtain ⟨t, rfl⟩ := hv; exact ⟨_, .int _ _, by simp [PyData.depth]⟩
    | str x => unfold dat at h; cases h; obtain ⟨t, rfl⟩ := hv; exact ⟨_, .str _ _, by simp [PyData.depth]⟩
    | ref k =>
      unfold dat at h
      split at h
      · rename_i xs hxs
        obtain ⟨a, ha, rfl⟩ := hv
        obtain ⟨a', ob, e1, e2, vs, m, rfl, hvs⟩ := I.obj _ _ hxs
        rw [ha] at e1; cases e1
        have key : ∀ (xs : List V) (ds : List PyData) (vs : List Value), dats st.sto n xs = some ds → VRs σ xs vs → ∃ as, ReadsAll s.heap vs ds as ∧ PyData.depthAll ds ≤ n := by
          intro xs
          induction xs with
          | nil => intro ds vs h hv; unfold dats at h; cases h; cases hv; exact ⟨_, .nil, by simp [PyData.depthAll]⟩
          | cons X r ihr =>
            intro ds vs h hv
            obtain ⟨v, vr, rfl, hv1, hv2⟩ := hv
            unfold dats at h
            split at h
            · rename_i d ds' q1 q2
              cases h
              obtain ⟨as, r1, r2⟩ := ih X d v q1 hv1
              obtain ⟨bs, r3, r4⟩ := ihr ds' vr q2 hv2
              exact ⟨_, .cons r1 r3, by simp only [PyData.depthAll]; omega⟩
            · cases h
        cases q : dats st.sto n xs with
        | none => rw [q] at h; cases h
        | some ds =>
          rw [q] at h; cases h
          obtain ⟨as, r1, r2⟩ := key xs ds vs q hvs
          exact ⟨_, .list e2 rfl rfl (by simpa using r1), by simp only [PyData.depth]; omega⟩
      · cases h
def wEqD (a b : EW) : EW := fun st Q => a st fun X st1 => b st1 fun Y st2 => ∃ n da db, n ≤ 100 ∧ dat st2.sto n X = some da ∧ dat st2.sto n Y = some db ∧ da.canLay0 = true ∧ db.canLay0 = true ∧ Q (.bool (PyData.eqv da db)) st2
def bNeD (a b : EW) : BW := fun st Q => a st fun X st1 => b st1 fun Y st2 => ∃ n da db, n ≤ 100 ∧ dat st2.sto n X = some da ∧ dat st2.sto n Y = some db ∧ da.canLay0 = true ∧ db.canLay0 = true ∧ Q (!PyData.eqv da db) st2
theorem EV.eqD {l r : Expr} {p : Pos} {a b : EW} (hl : EV C sc l a) (hr : EV C sc r b) (hm : behindInMarks .Eq r = false) : EV C sc (.Compare l [.Eq] [r] p) (wEqD a b) := fun env A s σ st Q he hA I hT h => by
  refine wpAny_Compare1 (tmono hT (hl env A s σ st _ he hA I hT h) (fun x s1 t1 h1 => ?_) fun _ _ e => e) hm
  obtain ⟨σ1, X, st1, e1, hX, I1, h1⟩ := h1
  refine tmono t1 (hr env A s1 σ1 st1 _ he hA I1 t1 h1) (fun y s2 t2 h2 => ?_) fun _ _ e => e
  obtain ⟨σ2, Y, st2, e2, hY, I2, n, da, db, hn, q1, q2, q3, q4, h2⟩ := h2
  obtain ⟨as, r1, d1⟩ := reads_of I2 n X da x q1 (hX.ext e2)
  obtain ⟨bs, r2, d2⟩ := reads_of I2 n Y db y q2 hY
  refine SeqAt.compareEq_reads r1 r2 q3 q4 ?_ ⟨σ2, .bool (PyData.eqv da db), st2, e1.trans e2, rfl, I2, h2⟩
  have := hA.2.2; unfold cLine; omega
theorem EB.neD {l r : Expr} {p : Pos} {a b : EW} (hl : EV C sc l a) (hr : EV C sc r b) (hm : behindInMarks .NotEq r = false) : EB C sc (.Compare l [.NotEq] [r] p) (bNeD a b) := fun env A s σ st Q he hA I hT h => by
  refine wpAny_isTrue_Compare1 (tmono hT (hl env A s σ st _ he hA I hT h) (fun x s1 t1 h1 => ?_) fun _ _ e => e) hm
  obtain ⟨σ1, X, st1, e1, hX, I1, h1⟩ := h1
  refine tmono t1 (hr env A s1 σ1 st1 _ he hA I1 t1 h1) (fun y s2 t2 h2 => ?_) fun _ _ e => e
  obtain ⟨σ2, Y, st2, e2, hY, I2, n, da, db, hn, q1, q2, q3, q4, h2⟩ := h2
  obtain ⟨as, r1, d1⟩ := reads_of I2 n X da x q1 (hX.ext e2)
  obtain ⟨bs, r2, d2⟩ := reads_of I2 n Y db y q2 hY
  refine SeqAt.compareNe_reads r1 r2 q3 q4 ?_ (wpAny_truthy_bool ⟨σ2, st2, e1.trans e2, I2, h2⟩)
  have := hA.2.2; unfold cLine; omega

/- o.append as a value, and its call -/
def wApp (x : String) : EW := fun st Q => ∃ k xs, st.loc x = some (.ref k) ∧ st.sto[k]? = some (.list xs) ∧ Q (.ref st.sto.length) (st.push (.app k))
theorem EV.app {x : String} {p pos : Pos} (hl : sc.names.lookup (Str.ofString x) = some .local) (hd : (Str.ofString x == ("__debug__" : Str)) = false) : EV C sc (.Attribute (.Name (Str.ofString x) p) "append" pos) (wApp x) := fun env A s σ st Q he hA I hT h => by
  obtain ⟨k, xs, hk, hxs, h⟩ := h
  refine Attribute_name (wpAny_Name (load_name he I hk hl fun v hv => ?_) hd)
  obtain ⟨a, ha, rfl⟩ := hv
  obtain ⟨a', ob, f1, f2, vs, n, rfl, hvs⟩ := I.obj _ _ hxs
  rw [ha] at f1; cases f1
  refine append_attr f2 ⟨σ ++ [s.heap.objs.size], .ref st.sto.length, st.push (.app k), Ext.app _ _, I.newRef _, ?_, h⟩
  exact I.newObj (fun _ _ e => Heap.get?_push_of_some _ e) (Nat.le_refl _) (Heap.get?_push_size _ rfl) ⟨a, Ext.app σ _ k a ha, rfl⟩

theorem callWith_app {pos : Pos} {u : Addr} {args : List (Bool × Sem Value)} {Q : Value → Shared → Prop} {M : Model} {A : Around} {E : Value → Shared → Prop} {s : Shared} (hplain : args.any (·.1) = false)
    (h : wpAny M A (evalArgs (.ref u) true args []) (fun x s₁ => (∃ a : Addr, s₁.heap.get? u = some { cls := .type "builtin_function_or_method", data := .fields #[.builtin "list.append", .ref a] }) ∧ wpAny M A (call (.ref u) x.pos x.kw) Q E s₁) E s) : wpAny M A (callWith pos (.ref u) [] args []) Q E s := by
  unfold callWith
  refine wpAny_bind (wpAny_holding (wpAny_mono h (fun x s₁ h₁ => wpAny_bind (wpAny_standAt ?_)) fun _ _ x => x))
  obtain ⟨⟨a, ho⟩, hcall⟩ := h₁
  simp only [hplain, List.any_nil, Bool.or_false]
  refine wpAny_bind (m := keeperOf (.ref u)) ?_
  unfold keeperOf
  refine wpAny_bind (wpAny_load ho ?_)
  simp only [show (Value.type "builtin_function_or_method" != Value.type "method") = true by decide, show (Value.type "builtin_function_or_method" == Value.type "builtin_function_or_method" || Value.type "builtin_function_or_method" == Value.type "method-wrapper") = true by decide, if_true]
  refine wpAny_pure ?_
  exact wpAny_bind (wpAny_mono hcall (fun r s₂ hr => wpAny_bind (wpAny_holding (wpAny_point (wpAny_pure hr)))) fun _ _ x => x)
def wAdd (x : String) (b : LW) : EW := fun st Q => ∃ k, st.loc x = some (.ref k) ∧ b st fun Xs st1 => ∃ j xs Y, Xs = [Y] ∧ st1.sto[k]? = some (.app j) ∧ st1.sto[j]? = some (.list xs) ∧ st1.nb ≤ j ∧ xs.length ≤ 16777216 ∧ Q .none (st1.upd j (.list (xs ++ [Y])))
theorem EV.add {x : String} {e : Expr} {r : List Expr} {p pos : Pos} {b : LW} (hl : sc.names.lookup (Str.ofString x) = some .local) (hd : (Str.ofString x == ("__debug__" : Str)) = false) (hargs : EL C sc (e :: r) b)
    (hst : ∀ env, starEach (e :: r) env = (false, eval e env) :: starEach r env) (hplain : ∀ env, (backTo pos (starEach r env)).any (·.1) = false) : EV C sc (.Call (.Name (Str.ofString x) p) (e :: r) [] pos) (wAdd x b) := fun env A s σ st Q hn hA I hT h => by
  obtain ⟨k, hk, h⟩ := h
  refine wpAny_Call_NameR (wpAny_Name (load_name hn I hk hl fun v hv => ?_) hd)
  obtain ⟨u, hu, rfl⟩ := hv
  have he : backTo pos (starEach (e :: r) env) = backTo pos ((false, eval e env) :: starEach r env) := by rw [hst env]
  have key := hargs env A s σ st _ pos hn hA I hT h
  rw [he] at key ⊢
  refine callWith_app (by show (false || (backTo pos (starEach r env)).any (·.1)) = false; rw [hplain]; rfl) (evalArgs_plain (tmono hT key (fun vs s1 t1 h1 => ?_) fun _ _ e => e))
  obtain ⟨σ1, Xs, st1, e1, hXs, I1, j, xs, Y, rfl, happ, hxs, hnb, hlen, h1⟩ := h1
  obtain ⟨v, r', rfl, hY, rfl⟩ := hXs
  obtain ⟨u', ou, f1, f2, a, ha, rfl⟩ := I1.obj _ _ happ
  have hu1 := e1 k u hu
  rw [hu1] at f1; cases f1
  obtain ⟨a', ob, g1, g2, vs, n, rfl, hvs⟩ := I1.obj _ _ hxs
  rw [ha] at g1; cases g1
  refine ⟨⟨a, f2⟩, bound_call f2 g2 (by rw [sizeLine_val]; simp [hvs.len]; exact hlen) fun h' hl' hs => ?_⟩
  obtain ⟨n', hl'⟩ := hl'
  refine ⟨σ1, .none, _, e1, rfl, I1.updObj (o := .list (xs ++ [Y])) ha hnb g2 (by simp) hs hl' ⟨vs ++ [v], n', by simp, hvs.append ⟨v, [], rfl, hY, rfl⟩⟩, h1⟩

/- calls of types -/
theorem EV.callT0 {x : Str} {T : String} {p pos : Pos} {W : CW} (hl : sc.names.lookup x = some .globalImplicit) (hd : (x == ("__debug__" : Str)) = false) (hg : C.G.mg x = none) (hb : bootBuiltins x = some (.type T)) (hne : x ≠ "__name__")
    (hc : CallOk C (.type T) W) : EV C sc (.Call (.Name x p) [] [] pos) (fun st Q => W [] st Q) := fun env A s σ st Q hn hA I hT h => by
  refine wpAny_Call_NameR (name_blt hn I hl hd hg hb hne ?_)
  exact callWith_type0 (hc A s σ st [] [] _ hA I hT rfl h)
def wIsStr (x : String) : EW := fun st Q => ∃ y, st.loc x = some (.str y) ∧ Q (.bool true) st
theorem EV.isStr {x : String} {p p1 p2 pos : Pos} (hl : sc.names.lookup (Str.ofString x) = some .local) (hd : (Str.ofString x == ("__debug__" : Str)) = false) (h1 : sc.names.lookup (Str.ofString "isinstance") = some .globalImplicit) (h2 : sc.names.lookup (Str.ofString "str") = some .globalImplicit)
    (g1 : C.G.mg "isinstance" = none) (g2 : C.G.mg "str" = none) : EV C sc (.Call (.Name "isinstance" p) [.Name (Str.ofString x) p1, .Name "str" p2] [] pos) (wIsStr x) := fun env A s σ st Q hn hA I hT h => by
  obtain ⟨y, hy, h⟩ := h
  refine wpAny_Call_NameR (name_blt hn I h1 (by decide) g1 (v := .builtin "isinstance") (by first | rfl | decide) (by decide) ?_)
  refine callWith_method1 (first := []) (wpAny_items_cons (wpAny_Name (load_name hn I hy hl fun v hv => ?_) hd) rfl) rfl rfl
  obtain ⟨t, rfl⟩ := hv
  refine wpAny_items_cons (name_blt hn I h2 (by decide) g2 (v := .type "str") (by first | rfl | decide) (by decide) ?_) rfl
  refine wpAny_items_nil (IsiPair.str_str ⟨σ, .bool true, st, Ext.rfl', rfl, I, h⟩)
end
def RDown (a n : Int) (i : Nat) (o : Obj) : Prop := o = { cls := .type "range_iterator", dict := none, data := .fields #[rawInt (a - i), rawInt (n - i), rawInt (-1)], slots := #[] }
def downs (a : Nat) : List V := (List.range a).map fun (i : Nat) => V.int (((a : Int) - ((i : Nat) : Int)))
theorem downs_get (a i : Nat) (X : V) (h : (downs a)[i]? = some X) : i < a ∧ X = .int ((a : Int) - ((i : Nat) : Int)) := by
  unfold downs at h
  rw [List.getElem?_map] at h
  by_cases hi : i < a
  · rw [List.getElem?_range hi] at h
    simp at h
    exact ⟨hi, h.symm⟩
  · rw [List.getElem?_eq_none (by simp; omega)] at h
    simp at h
theorem downs_len (a : Nat) : (downs a).length = a := by simp [downs]
theorem size_down (a : Nat) : Builtin.Range.rangeSize (a : Int) 0 (-1) = a := by
  unfold Builtin.Range.rangeSize
  rw [if_neg (by omega)]
  split
  · have : ((a : Int) - 0 - 1) / (-(-1)) = (a : Int) - 1 := by simp
    rw [this]; omega
  · omega
theorem small_down (a : Nat) (h : a ≤ 16777216) : Builtin.Range.small (a : Int) 0 (-1) = true := by
  unfold Builtin.Range.small
  rw [size_down]
  have h1 : Builtin.Range.rangeFitsLong (a : Int) = true := by unfold Builtin.Range.rangeFitsLong; simp; omega
  have h2 : Builtin.Range.rangeFitsLong (0 : Int) = true := by decide
  have h3 : Builtin.Range.rangeFitsLong (-1 : Int) = true := by decide
  simp [h1, h2, h3]

section
variable {C : Cx} {sc : Scope}
theorem protDown {A : Around} (hh : A.handled = none) (I : Addr) (a : Nat) (σ0 : List Addr) : Prot C A σ0 I (downs a) (fun _ => True) (RDown a a) where
  next := fun i σ st s X Q _ ho _ _ hX hQ => by
    obtain ⟨o, ho, rfl⟩ := ho
    obtain ⟨hi, rfl⟩ := downs_get a i X hX
    refine wpAny_pyNext_range_item ho (by omega) fun h' hit hs => hQ _ h' _ ⟨_, rfl⟩ ⟨_, hit, ?_⟩ hs.extBut
    unfold RDown
    have e1 : ((a : Int) - ((i + 1 : Nat) : Int)) = (a : Int) - (i : Int) + -1 := by omega
    have e2 : ((a : Int) - ((i + 1 : Nat) : Int)) = (a : Int) - (i : Int) - 1 := by omega
    rw [show rawInt ((a : Int) - ((i + 1 : Nat) : Int)) = rawInt ((a : Int) - (i : Int) + -1) by rw [e1]]
    congr 1
  done := fun σ st s Q _ ho _ _ hQ => by
    obtain ⟨o, ho, rfl⟩ := ho
    exact wpAny_pyNext_range_end hh ho (by rw [downs_len]; omega) fun h' hk => hQ h' _ hk
  cls := fun i o h => by rw [h]; simp

def sDown (x : String) (a : EW) (b : SW) : SW := fun st Q => a st fun X st1 => ∃ n : Nat, X = .int n ∧ n ≤ 16777216 ∧ forW (fun _ => True) x b (downs n) st1 Q
theorem ES.down {x : String} {px p p1 p2 p3 p4 p5 : Pos} {k k2 : Nat} {e : Expr} {body : List Stmt} {a : EW} {b : SW} (he : EV C sc e a) (hx : sc.names.lookup (Str.ofString x) = some .local) (hb : ∀ I o, EX (C.pin I o) sc body b)
    (hl : sc.names.lookup (Str.ofString "range") = some .globalImplicit) (hg : C.G.mg "range" = none) (hst : ∀ env, starEach [e, .Constant (.int 0) k p2, .UnaryOp .USub (.Constant (.int 1) k2 p3) p4] env = (false, eval e env) :: starEach [.Constant (.int 0) k p2, .UnaryOp .USub (.Constant (.int 1) k2 p3) p4] env) :
    ES C sc (.For (.Name (Str.ofString x) px) (.Call (.Name "range" p1) [e, .Constant (.int 0) k p2, .UnaryOp .USub (.Constant (.int 1) k2 p3) p4] [] p5) body [] p) (sDown x a b) := fun env A s σ st Q hn hA I hT h => by
  refine wpAny_For (wpAny_Call_NameR (name_blt hn I hl (by decide) hg (v := .type "range") (by first | rfl | decide) (by decide) ?_)) (fun x => rfl)
  refine callWith_type1 (wpAny_items_cons (tmono hT (he env A s σ st _ hn hA I hT h) (fun v s1 t1 h1 => ?_) fun _ _ e => e) (hst env)) (hst env) rfl
  obtain ⟨σ1, X, st1, e1, hX, I1, n, rfl, hle, h1⟩ := h1
  obtain ⟨t, rfl⟩ := hX
  refine wpAny_items_cons (wpAny_Constant_int (wpAny_items_cons (UnaryOp_ (wpAny_Constant_int (neg_int (wpAny_items_nil ?_)))) rfl)) rfl
  have I2 := I1.heapPush { cls := .type "range", data := .fields #[.int n t, .int 0 s1.toks, .int (-1) (s1.toks + 1 + 1)] }
  refine call_range_3 (by decide) ?_ (.inl (PyProof.noPylong_small (by decide)))
  refine wpAny_pyIter_range (a := n) (b := 0) (c := -1) (Heap.get?_push_size _ rfl) (small_down n hle) ?_
  rw [size_down]
  exact for_loop (protDown hA.1 _ n σ1) hn hA hx (hb _) (I2.heapPush _) (by show 1 ≤ s1.toks + 1 + 1 + 1; omega) (I2.fresh (Nat.le_refl _)) ⟨_, Heap.get?_push_size _ rfl, by unfold RDown; simp⟩ h1 (fun fl f s' σ' st' e' hF I' q => ⟨σ', fl, st', e1.trans e', hF, I', q⟩)
end
def tabRow (e : DictEntry) : Option Nat := match e.key, e.val with
  | .int i _, .str x _ => if 0 ≤ i ∧ x = ⟨#[92, i.toNat]⟩ ∧ e.hash = hashInt i then some i.toNat else none
  | _, _ => none
theorem tabRow_is {e : DictEntry} {c : Nat} (h : tabRow e = some c) : ∃ t u, e.key = .int c t ∧ e.val = .str ⟨#[92, c]⟩ u ∧ e.hash = hashInt c := by
  unfold tabRow at h
  split at h
  · rename_i i t x u hk hv
    split at h
    · rename_i hc
      obtain ⟨h0, hx, hh⟩ := hc
      cases h
      have : ((i.toNat : Nat) : Int) = i := Int.toNat_of_nonneg h0
      exact ⟨t, u, by rw [this]; exact hk, by rw [hv, hx], by rw [this]; exact hh⟩
    · cases h
  · cases h
theorem tab_find : ∀ (es : List DictEntry) (ks : List Nat), es.map tabRow = ks.map some → ∀ c : Nat,
    (c ∈ ks → ∃ t, ((es.find? fun e => Value.isInt (c : Int) e.key).map (·.val)) = some (.str ⟨#[92, c]⟩ t)) ∧ (c ∉ ks → ((es.find? fun e => Value.isInt (c : Int) e.key).map (·.val)) = none)
  | [], [], _, c => ⟨(fun h => nomatch h), (fun _ => rfl)⟩
  | [], _ :: _, h, _ => by simp at h
  | _ :: _, [], h, _ => by simp at h
  | e :: es, k :: ks, h, c => by
    rw [List.map_cons, List.map_cons, List.cons.injEq] at h
    obtain ⟨t, u, h1, h2, _⟩ := tabRow_is h.1
    have ih := tab_find es ks h.2 c
    have hk : Value.isInt (c : Int) e.key = decide (c = k) := by
      rw [h1]
      simp only [Value.isInt]
      by_cases hck : c = k
      · subst hck; simp
      · have : ((k : Nat) : Int) ≠ (c : Int) := by omega
        simp [hck, this]
    rw [List.find?_cons, hk]
    by_cases hck : c = k
    · subst hck
      simp only [decide_true]
      exact ⟨fun _ => ⟨u, by simp [h2]⟩, fun q => absurd (List.mem_cons_self ..) q⟩
    · simp only [hck, decide_false]
      exact ⟨fun q => ih.1 (by rcases List.mem_cons.mp q with q | q; exact absurd q hck; exact q), fun q => ih.2 fun z => q (List.mem_cons_of_mem _ z)⟩

def SpecAt (h : Heap) (d : Addr) (ks : List Nat) : Prop := (d == sysModules) = false ∧ ∃ es ep, h.get? d = some { cls := .type "dict", data := .dict es ep } ∧ es.toList.map tabRow = ks.map some
theorem SpecAt.keeps {h h' : Heap} {d : Addr} {ks : List Nat} (x : SpecAt h d ks) (hk : ∀ b o, h.get? b = some o → h'.get? b = some o) : SpecAt h' d ks :=
  let ⟨h0, es, ep, h1, h2⟩ := x; ⟨h0, es, ep, hk _ _ h1, h2⟩
theorem SpecAt.map {h : Heap} {d : Addr} {ks : List Nat} (prog : Program) (w : World) (x : SpecAt h d ks) : ∃ f, h.MapOf (intKind prog w) d f ∧ ∀ c : Nat, (c ∈ ks → ∃ t, f c = some (.str ⟨#[92, c]⟩ t)) ∧ (c ∉ ks → f c = none) := by
  obtain ⟨_, es, ep, h1, h2⟩ := x
  refine ⟨fun k => findBy Value.isInt es k, ⟨_, es, ep, h1, ⟨rfl, rfl, rfl⟩, rfl, fun e he => ?_, fun _ => rfl⟩, fun c => ?_⟩
  · have hm : tabRow e ∈ es.toList.map tabRow := List.mem_map_of_mem (by simpa using he)
    rw [h2] at hm
    obtain ⟨c, _, hc⟩ := List.mem_map.mp hm
    obtain ⟨t, u, q1, q2, q3⟩ := tabRow_is hc.symm
    exact ⟨c, by rw [q1]; simp [intKind, Value.isInt], q3⟩
  · have := tab_find es.toList ks h2 c
    unfold findBy
    simp only [← Array.find?_toList]
    exact this

section
variable {prog : Program} {w : World} {A : Around} {E : Value → Shared → Prop}
theorem look_in {s : Shared} {d : Addr} {ks : List Nat} {c : Nat} {Q : Builtin.Str.Mapped → Shared → Prop} (x : SpecAt s.heap d ks) (hc : c ∈ ks) (h : ∀ tk, Q (.text ⟨#[92, c]⟩) { s with toks := tk }) : wpAny (model prog w) A (Builtin.Str.tableLookup (.ref d) c) Q E s := by
  obtain ⟨f, hm, hf⟩ := x.map prog w
  obtain ⟨t, ht⟩ := (hf c).1 hc
  unfold Builtin.Str.tableLookup
  refine wpAny_bind (wpAny_attempt (wpAny_bind (wpAny_mkInt ?_)))
  refine wpAny_getItem_of (knd := intKind prog w) (f := f) (intKind_is prog w _ _) hm ht ?_
  dsimp only
  refine wpAny_bind (wpAny_of_eq (a := none) rfl ?_)
  exact wpAny_bind (wpAny_of_eq (a := some ⟨#[92, c]⟩) rfl (wpAny_pure (h _)))
theorem look_out {s : Shared} {d : Addr} {ks : List Nat} {c : Nat} {Q : Builtin.Str.Mapped → Shared → Prop} (hh : A.handled = none) (x : SpecAt s.heap d ks) (hc : c ∉ ks) (h : ∀ h' tk, (∀ b o, s.heap.get? b = some o → h'.get? b = some o) → Q .keep { s with heap := h', toks := tk }) :
    wpAny (model prog w) A (Builtin.Str.tableLookup (.ref d) c) Q E s := by
  obtain ⟨f, hm, hf⟩ := x.map prog w
  have hn := (hf c).2 hc
  unfold Builtin.Str.tableLookup
  refine wpAny_bind (wpAny_attempt (wpAny_bind (wpAny_mkInt ?_)))
  refine wpAny_getItem_missing_of (knd := intKind prog w) (f := f) (intKind_is prog w _ _) x.1 hh hm hn fun h' e he => ?_
  dsimp only
  refine wpAny_bind (wpAny_isInstance (T := "KeyError") (b := true) ?_ (by rw [isSubtype_type]; kernel_rfl) ?_)
  · obtain ⟨h1, h2, a, b, h3, h4, _⟩ := he
    exact ⟨_, h3, h4⟩
  · simp only [if_true]
    exact wpAny_bind (wpAny_rule (wpAny_pure (h _ _ he.1)))
end
section
variable {prog : Program} {w : World} {A : Around} {E : Value → Shared → Prop}
def esc1 (ks : List Nat) (c : Nat) : List Nat := if c ∈ ks then [92, c] else [c]
theorem translate_one {s : Shared} {d : Addr} {ks : List Nat} {c : Nat} {t : Tok} {Q : Fin → Shared → Prop} (hh : A.handled = none) (x : SpecAt s.heap d ks) 
    (h : ∀ h' t' tk, (∀ b o, s.heap.get? b = some o → h'.get? b = some o) → Q (.done (.ret (.str ⟨(esc1 ks c).toArray⟩ t'))) { s with heap := h', toks := tk }) :
    wpAny (model prog w) A (Builtin.«str.translate» ⟨[.str ⟨#[c]⟩ t, .ref d], []⟩) Q E s := by
  unfold Builtin.«str.translate»
  refine wpAny_bind (wpAny_of_eq (a := (Value.str ⟨#[c]⟩ t, (⟨#[c]⟩ : Str), Value.ref d)) (by first | rfl | kernel_rfl) ?_)
  dsimp only
  have h0 : ((⟨#[c]⟩ : Str).length == 0) = false := rfl
  have h1 : Builtin.Str.tooLong 0 = false := by decide
  simp only [h0, Bool.false_eq_true, if_false, ← Array.forIn_toList, List.forIn_cons, List.forIn_nil, h1, List.lookup]
  have t1 : Builtin.Str.tooLong 1 = false := by decide
  have t2 : Builtin.Str.tooLong 2 = false := by decide
  by_cases hc : c ∈ ks
  · have e1 : esc1 ks c = [92, c] := by unfold esc1; rw [if_pos hc]
    rw [e1] at h
    have h2 : ((⟨#[92, c]⟩ : Str).length == 1 && (#[92, c] : Array Nat).all fun x => decide (x < 128)) = false := rfl
    refine wpAny_bind (wpAny_bind ?_)
    split
    · refine wpAny_bind (look_in x hc fun tk => ?_)
      simp only [h2, Bool.false_eq_true, if_false]
      refine wpAny_bind (wpAny_pure ?_)
      dsimp only
      refine wpAny_bind (wpAny_rule (wpAny_bind (look_in x hc fun tk => ?_)))
      refine wpAny_pure (wpAny_pure ?_)
      exact KFB.if_not t2 (wpAny_bind (wpAny_mkStr (wpAny_pure (h _ _ _ fun _ _ e => e)) (show (2 : Nat) ≤ sizeLine by decide)))
    · refine wpAny_bind (look_in x hc fun tk => ?_)
      refine wpAny_pure (wpAny_pure ?_)
      exact KFB.if_not t2 (wpAny_bind (wpAny_mkStr (wpAny_pure (h _ _ _ fun _ _ e => e)) (show (2 : Nat) ≤ sizeLine by decide)))
  · have e1 : esc1 ks c = [c] := by unfold esc1; rw [if_neg hc]
    rw [e1] at h
    refine wpAny_bind (wpAny_bind ?_)
    split
    · refine wpAny_bind (look_out hh x hc fun h' tk hk => ?_)
      dsimp only
      refine wpAny_bind (wpAny_pure ?_)
      dsimp only
      refine wpAny_pure (wpAny_pure ?_)
      exact KFB.if_not t1 (wpAny_bind (wpAny_mkStr (wpAny_pure (h _ _ _ hk)) (show (1 : Nat) ≤ sizeLine by decide)))
    · refine wpAny_bind (look_out hh x hc fun h' tk hk => ?_)
      refine wpAny_pure (wpAny_pure ?_)
      exact KFB.if_not t1 (wpAny_bind (wpAny_mkStr (wpAny_pure (h _ _ _ hk)) (show (1 : Nat) ≤ sizeLine by decide)))
end

section
variable {C : Cx} {sc : Scope}
def wTrans (x : String) (ks : List Nat) : EW := fun st Q => ∃ c, st.loc x = some (.str [c]) ∧ Q (.str (esc1 ks c)) st
theorem EV.methG {x y : String} {name : Str} {id : String} {d : Addr} {p1 p2 apos pos : Pos} {pl : Env → Sem Bool} {W : V → St → (V → St → Prop) → Prop} (hl : sc.names.lookup (Str.ofString x) = some .local) (hd : (Str.ofString x == ("__debug__" : Str)) = false)
    (hy : sc.names.lookup (Str.ofString y) = some .globalImplicit) (hyd : (Str.ofString y == ("__debug__" : Str)) = false) (hg : C.G.mg (Str.ofString y) = some (.ref d)) (slot : Slot "str" name id) (hty : typeOf (.builtin id) = pure (.type "method_descriptor"))
    (hc : ∀ (A : Around) (s : Shared) (σ : List Addr) (st : St) (X : List Nat) (t : Tok) (Q : V → St → Prop), AOk C.d A → InvS C σ st s → W (.str X) st Q → wpAny (model C.G.prog C.G.w) A (call (.builtin id) [.str ⟨X.toArray⟩ t, .ref d]) (PV C σ Q) Bot s)
    (he : ∀ env, eval (.Call (.Attribute (.Name (Str.ofString x) p1) name apos) [.Name (Str.ofString y) p2] [] pos) env = (do
      let ov ← eval (.Name (Str.ofString x) p1) env
      standAt apos.atName
      let (f, first) ← holding [ov] (getMethod ov name (pl env))
      callWith pos f first (backTo pos (starEach [.Name (Str.ofString y) p2] env)) [])) :
    EV C sc (.Call (.Attribute (.Name (Str.ofString x) p1) name apos) [.Name (Str.ofString y) p2] [] pos) (fun st Q => ∃ X, st.loc x = some (.str X) ∧ W (.str X) st Q) := fun env A s σ st Q hn hA I hT h => by
  obtain ⟨X, hX, h⟩ := h
  refine MethodCall_ (wpAny_Name (load_name hn I hX hl fun v hv => ?_) hd) (he env)
  obtain ⟨t, rfl⟩ := hv
  refine getMethod_builtin (typeIs_str _ _ t) PySem.F.plainAttrs_str slot hty (fun a e => by cases e) ?_
  exact callWith_method1 (wpAny_items_cons (name_glob hn I hy hyd hg (wpAny_items_nil (hc A s σ st X t Q hA I h))) rfl) rfl rfl
theorem EV.trans {x y : String} {d : Addr} {ks : List Nat} {p1 p2 apos pos : Pos} {pl : Env → Sem Bool} (hl : sc.names.lookup (Str.ofString x) = some .local) (hd : (Str.ofString x == ("__debug__" : Str)) = false)
    (hy : sc.names.lookup (Str.ofString y) = some .globalImplicit) (hyd : (Str.ofString y == ("__debug__" : Str)) = false) (hg : C.G.mg (Str.ofString y) = some (.ref d)) (hks : ∀ h, C.G.K.In h → SpecAt h d ks)
    (he : ∀ env, eval (.Call (.Attribute (.Name (Str.ofString x) p1) "translate" apos) [.Name (Str.ofString y) p2] [] pos) env = (do
      let ov ← eval (.Name (Str.ofString x) p1) env
      standAt apos.atName
      let (f, first) ← holding [ov] (getMethod ov "translate" (pl env))
      callWith pos f first (backTo pos (starEach [.Name (Str.ofString y) p2] env)) [])) :
    EV C sc (.Call (.Attribute (.Name (Str.ofString x) p1) "translate" apos) [.Name (Str.ofString y) p2] [] pos) (wTrans x ks) := fun env A s σ st Q hn hA I hT h => by
  refine EV.methG (W := fun X st Q => ∃ c, X = .str [c] ∧ Q (.str (esc1 ks c)) st) hl hd hy hyd hg PySem.F.slot_str_translate PySem.F.type_str_translate ?_ he env A s σ st Q hn hA I hT ?_
  · intro A s σ st X t Q hA I h
    obtain ⟨c, hX, h⟩ := h
    cases hX
    obtain ⟨m, Fm, _⟩ := I.fr
    have hsp := hks _ (I.ok.k.keeps Fm.keep)
    refine wpAny_call_entry F.slot_str_translate (typeIs_str _ _ t) F.entry_str_translate ?_ (F.args_str_translate_2 _ _)
    exact translate_one (A := A.in1) (t := t) hA.1 hsp fun h' t' tk hk => ⟨_, rfl, σ, .str (esc1 ks c), st, Ext.rfl', ⟨_, rfl⟩, I.keeps hk, h⟩
  · obtain ⟨c, hc, h⟩ := h
    exact ⟨[c], hc, c, rfl, h⟩
end
/- the matcher over the one pattern -/
def twin : Array Nat := #[14, 14, 4, 1, 1, 9, 0, 64, 0, 1342177280, 0, 0, 0, 0, 0, 17, 0, 13, 11, 9, 0, 64, 0, 1342177280, 0, 0, 0, 0, 0, 17, 1, 1]
def isTwin (c : Nat) : Bool := c == 38 || c == 124 || c == 126
theorem bits5 : ∀ c, c < 256 → (twin.getD (5 + (1 + c / 32)) 0).testBit (c % 32) = isTwin c := by decide +kernel
theorem bits19 : ∀ c, c < 256 → (twin.getD (19 + (1 + c / 32)) 0).testBit (c % 32) = isTwin c := by decide +kernel
theorem not_twin {c : Nat} (h : ¬ c < 256) : isTwin c = false := by
  unfold isTwin
  simp; omega
theorem inSet5 (c : Nat) (fuel : Nat) (seen : Sre.Seen) : ∃ seen', Sre.inSet twin c (fuel + 2) 5 true seen = .ok (isTwin c, seen') := by
  unfold Sre.inSet
  have e : Sre.ops[twin.getD (5 + 0) 0]? = some .CHARSET := rfl
  simp only [e]
  by_cases hc : c < 256
  · rw [bits5 c hc]
    cases h : isTwin c with
    | true => simp only [decide_eq_true hc, Bool.and_true, if_true]; exact ⟨_, rfl⟩
    | false =>
      simp only [Bool.and_false, Bool.false_eq_true, if_false]
      unfold Sre.inSet
      have e2 : Sre.ops[twin.getD (5 + 9 + 0) 0]? = some .FAILURE := rfl
      simp only [e2]
      exact ⟨_, rfl⟩
  · rw [not_twin hc]
    simp only [decide_eq_false hc, Bool.false_and, Bool.false_eq_true, if_false]
    unfold Sre.inSet
    have e2 : Sre.ops[twin.getD (5 + 9 + 0) 0]? = some .FAILURE := rfl
    simp only [e2]
    exact ⟨_, rfl⟩
theorem inSet19 (c : Nat) (fuel : Nat) (seen : Sre.Seen) : ∃ seen', Sre.inSet twin c (fuel + 2) 19 true seen = .ok (isTwin c, seen') := by
  unfold Sre.inSet
  have e : Sre.ops[twin.getD (19 + 0) 0]? = some .CHARSET := rfl
  simp only [e]
  by_cases hc : c < 256
  · rw [bits19 c hc]
    cases h : isTwin c with
    | true => simp only [decide_eq_true hc, Bool.and_true, if_true]; exact ⟨_, rfl⟩
    | false =>
      simp only [Bool.and_false, Bool.false_eq_true, if_false]
      unfold Sre.inSet
      have e2 : Sre.ops[twin.getD (19 + 9 + 0) 0]? = some .FAILURE := rfl
      simp only [e2]
      exact ⟨_, rfl⟩
  · rw [not_twin hc]
    simp only [decide_eq_false hc, Bool.false_and, Bool.false_eq_true, if_false]
    unfold Sre.inSet
    have e2 : Sre.ops[twin.getD (19 + 9 + 0) 0]? = some .FAILURE := rfl
    simp only [e2]
    exact ⟨_, rfl⟩

theorem admitted_some (m : Sre.M) (hm : m.code = twin) {t : Nat} (ht : t < m.lim) (hy : isTwin (m.text.getD t 0) = true) : ∀ (n s fuel : Nat) (seen : Sre.Seen), s + n = t → n < fuel → (∀ j, s ≤ j → j < t → isTwin (m.text.getD j 0) = false) → ∃ seen', m.admitted fuel s seen = .ok (some t, seen') := by
  intro n
  induction n with
  | zero =>
    intro s fuel seen hs hf hno
    obtain ⟨f, rfl⟩ : ∃ f, fuel = f + 1 := ⟨fuel - 1, by omega⟩
    have hst : s = t := by omega
    subst hst
    unfold Sre.M.admitted
    rw [if_neg (by omega), hm]
    obtain ⟨seen', h⟩ := inSet5 (m.text.getD s 0) 30 seen
    have hsz : twin.size = 30 + 2 := rfl
    rw [hsz, h, hy]
    exact ⟨_, rfl⟩
  | succ n ih =>
    intro s fuel seen hs hf hno
    obtain ⟨f, rfl⟩ : ∃ f, fuel = f + 1 := ⟨fuel - 1, by omega⟩
    unfold Sre.M.admitted
    rw [if_neg (by omega), hm]
    obtain ⟨seen', h⟩ := inSet5 (m.text.getD s 0) 30 seen
    have hsz : twin.size = 30 + 2 := rfl
    rw [hsz, h, hno s (Nat.le_refl _) (by omega)]
    exact ih (s + 1) f seen' (by omega) (by omega) fun j h1 h2 => hno j (by omega) h2
theorem admitted_none (m : Sre.M) (hm : m.code = twin) : ∀ (fuel s : Nat) (seen : Sre.Seen), (∀ j, s ≤ j → j < m.lim → isTwin (m.text.getD j 0) = false) → ∃ seen', m.admitted fuel s seen = .ok (none, seen') := by
  intro fuel
  induction fuel with
  | zero => intro s seen _; exact ⟨_, rfl⟩
  | succ f ih =>
    intro s seen hno
    unfold Sre.M.admitted
    split
    · exact ⟨_, rfl⟩
    · rw [hm]
      obtain ⟨seen', h⟩ := inSet5 (m.text.getD s 0) 30 seen
      have hsz : twin.size = 30 + 2 := rfl
      rw [hsz, h, hno s (Nat.le_refl _) (by omega)]
      exact ih (s + 1) seen' fun j h1 h2 => hno j (by omega) h2

def at_ (text : Array Nat) (t pc pos handed : Nat) (marks : Array (Option Nat)) (lm li : Int) (fr : List Sre.Frame) (wt : Nat) (ans : Option Bool) (sn : Sre.Seen) (out : Option Sre.Outcome) : Sre.M :=
  { code := twin, text, lim := text.size, start := t, lastStart := text.size, pc, pos, handed, marks, lastmark := lm, lastindex := li, frames := fr, weight := wt, answer := ans, seen := sn, outcome := out }
abbrev fr0 (t : Nat) : Sre.Frame := { wait := .nextStart, pc := 15, pos := t, outermost := true }
theorem step1 {text : Array Nat} {t : Nat} {sn : Sre.Seen} : (at_ text t 15 t t #[none, none] (-1) (-1) [fr0 t] 1 none sn none).step = at_ text t 17 t t #[some t, none] 0 (-1) [fr0 t] 1 none (sn.add 17) none := rfl
theorem step2 {text : Array Nat} {t : Nat} {sn : Sre.Seen} (ht : t < text.size) (hy : isTwin (text.getD t 0) = true) :
    ∃ sn', (at_ text t 17 t t #[some t, none] 0 (-1) [fr0 t] 1 none sn none).step = at_ text t 29 (t + 1) t #[some t, none] 0 (-1) [fr0 t] 1 none sn' none := by
  obtain ⟨sn', h⟩ := inSet19 (text.getD t 0) 30 (sn.add 13)
  rw [hy] at h
  have e : (at_ text t 17 t t #[some t, none] 0 (-1) [fr0 t] 1 none sn none).step =
      (if t ≥ text.size then (at_ text t 17 t t #[some t, none] 0 (-1) [fr0 t] 1 none (sn.add 13) none).say false else
        match Sre.inSet twin (text.getD t 0) (30 + 2) 19 true (sn.add 13) with
        | .error why => (at_ text t 17 t t #[some t, none] 0 (-1) [fr0 t] 1 none (sn.add 13) none).stick why
        | .ok (false, seen) => { (at_ text t 17 t t #[some t, none] 0 (-1) [fr0 t] 1 none (sn.add 13) none) with seen }.say false
        | .ok (true, seen) => { (at_ text t 17 t t #[some t, none] 0 (-1) [fr0 t] 1 none (sn.add 13) none) with seen, pc := 29, pos := t + 1 }) := rfl
  rw [e, if_neg (by omega), h]
  exact ⟨sn', rfl⟩
theorem step3 {text : Array Nat} {t : Nat} {sn : Sre.Seen} : (at_ text t 29 (t + 1) t #[some t, none] 0 (-1) [fr0 t] 1 none sn none).step = at_ text t 31 (t + 1) t #[some t, some (t + 1)] 1 1 [fr0 t] 1 none (sn.add 17) none := by
  first
  | (with_unfolding_all rfl)
  | kernel_rfl
theorem step4 {text : Array Nat} {t : Nat} {sn : Sre.Seen} : (at_ text t 31 (t + 1) t #[some t, some (t + 1)] 1 1 [fr0 t] 1 none sn none).step = at_ text t 31 (t + 1) (t + 1) #[some t, some (t + 1)] 1 1 [fr0 t] 1 (some true) (sn.add 1) none := rfl
theorem step5 {text : Array Nat} {t : Nat} {sn : Sre.Seen} : (at_ text t 31 (t + 1) (t + 1) #[some t, some (t + 1)] 1 1 [fr0 t] 1 (some true) sn none).step = at_ text t 15 t (t + 1) #[some t, some (t + 1)] 1 1 [] 0 (some true) sn none := rfl
theorem step6 {text : Array Nat} {t : Nat} {sn : Sre.Seen} : (at_ text t 15 t (t + 1) #[some t, some (t + 1)] 1 1 [] 0 (some true) sn none).step = at_ text t 15 t (t + 1) #[some t, some (t + 1)] 1 1 [] 0 (some true) sn (some .matched) := rfl
theorem runFor_succ {n : Nat} {m : Sre.M} (h : m.outcome = none) : m.runFor (n + 1) = m.step.runFor n := by
  show (if m.outcome.isSome then m else m.step.runFor n) = _
  rw [h]; rfl
theorem runFor_done {n : Nat} {m : Sre.M} (h : m.outcome.isSome = true) : m.runFor n = m := by
  cases n with
  | zero => rfl
  | succ n => show (if m.outcome.isSome then m else m.step.runFor n) = _; rw [h]; rfl

def start_ (text : Array Nat) (pos : Nat) : Sre.M :=
  { code := twin, text, lim := text.size, start := pos, lastStart := text.size, pc := 15, pos, handed := pos, marks := #[none, none], seen := ({} : Sre.Seen).add 14 }
theorem search_at {text : Array Nat} {pos : Nat} (h : pos < text.size) : Sre.forSearch twin text 1 pos text.size false = (start_ text pos).attemptFrom pos true := by
  unfold Sre.forSearch
  rw [if_neg (by simp [show (Sre.header twin).1 = 1 from rfl]; omega)]
  rfl
theorem search_over {text : Array Nat} {pos : Nat} (h : text.size ≤ pos) : ∃ m : Sre.M, Sre.forSearch twin text 1 pos text.size false = m.say false ∧ m.outcome = none ∧ m.frames = [] := by
  unfold Sre.forSearch
  rw [if_pos (by simp [show (Sre.header twin).1 = 1 from rfl]; omega)]
  exact ⟨_, rfl, rfl, rfl⟩
theorem search_some {text : Array Nat} {pos t : Nat} (h1 : pos ≤ t) (ht : t < text.size) (hy : isTwin (text.getD t 0) = true) (hno : ∀ j, pos ≤ j → j < t → isTwin (text.getD j 0) = false) :
    ∃ sn, Sre.forSearch twin text 1 pos text.size false = at_ text t 15 t t #[none, none] (-1) (-1) [fr0 t] 1 none sn none := by
  rw [search_at (by omega)]
  obtain ⟨sn, h⟩ := admitted_some (start_ text pos) rfl (t := t) ht hy (t - pos) pos (text.size + 1 - pos) (start_ text pos).seen (by omega) (by omega) hno
  refine ⟨sn, ?_⟩
  have e : (start_ text pos).attemptFrom pos true = (match Sre.M.admitted (start_ text pos) (text.size + 1 - pos) pos (start_ text pos).seen with
    | .ok (some s, seen) => { (start_ text pos) with mustAdvance := false, seen }.attemptAt s true
    | .ok (none, seen) => { (start_ text pos) with seen }.say false
    | .error why => (start_ text pos).stick why) := rfl
  rw [e, h]
  rfl
theorem search_none {text : Array Nat} {pos : Nat} (hno : ∀ j, pos ≤ j → j < text.size → isTwin (text.getD j 0) = false) :
    ∃ m : Sre.M, Sre.forSearch twin text 1 pos text.size false = m.say false ∧ m.outcome = none ∧ m.frames = [] := by
  by_cases hp : pos < text.size
  · rw [search_at hp]
    obtain ⟨sn, h⟩ := admitted_none (start_ text pos) rfl (text.size + 1 - pos) pos (start_ text pos).seen hno
    have e : (start_ text pos).attemptFrom pos true = (match Sre.M.admitted (start_ text pos) (text.size + 1 - pos) pos (start_ text pos).seen with
      | .ok (some s, seen) => { (start_ text pos) with mustAdvance := false, seen }.attemptAt s true
      | .ok (none, seen) => { (start_ text pos) with seen }.say false
      | .error why => (start_ text pos).stick why) := rfl
    rw [e, h]
    exact ⟨{ (start_ text pos) with seen := sn }, rfl, rfl, rfl⟩
  · exact search_over (by omega)

section
variable {M : Model} {A : Around} {E : Value → Shared → Prop} {s : Shared}
theorem drive_none (m : Sre.M) (h1 : m.outcome = none) (h2 : m.frames = []) {n : Nat} {Q : Sre.M → Shared → Prop} (h : ∀ m' : Sre.M, m'.outcome = some .failed → Q m' s) : wpAny M A (Builtin.Re.reDrive (n + 1) (m.say false)) Q E s := by
  have e : (m.say false).runFor Builtin.Re.reTurnSteps = { (m.say false) with outcome := some .failed } := by
    show (m.say false).runFor 4 = _
    rw [runFor_succ (m := m.say false) h1]
    have e2 : (m.say false).step = { (m.say false) with outcome := some .failed } := by
      unfold Sre.M.step Sre.M.say
      simp [h1, h2]
    rw [e2]
    exact runFor_done rfl
  unfold Builtin.Re.reDrive
  rw [e]
  exact wpAny_pure (h _ rfl)
theorem drive_some {text : Array Nat} {t : Nat} {sn : Sre.Seen} (ht : t < text.size) (hy : isTwin (text.getD t 0) = true) {n : Nat} {Q : Sre.M → Shared → Prop}
    (h : ∀ sn', Q (at_ text t 15 t (t + 1) #[some t, some (t + 1)] 1 1 [] 0 (some true) sn' (some .matched)) s) : wpAny M A (Builtin.Re.reDrive (n + 2) (at_ text t 15 t t #[none, none] (-1) (-1) [fr0 t] 1 none sn none)) Q E s := by
  obtain ⟨sn2, e2⟩ := step2 (sn := sn.add 17) ht hy
  have e : (at_ text t 15 t t #[none, none] (-1) (-1) [fr0 t] 1 none sn none).runFor 4 = at_ text t 31 (t + 1) (t + 1) #[some t, some (t + 1)] 1 1 [fr0 t] 1 (some true) ((sn2.add 17).add 1) none := by
    rw [runFor_succ rfl, step1, runFor_succ rfl, e2, runFor_succ rfl, step3, runFor_succ rfl, step4]; rfl
  have f : (at_ text t 31 (t + 1) (t + 1) #[some t, some (t + 1)] 1 1 [fr0 t] 1 (some true) ((sn2.add 17).add 1) none).runFor 4 = at_ text t 15 t (t + 1) #[some t, some (t + 1)] 1 1 [] 0 (some true) ((sn2.add 17).add 1) (some .matched) := by
    rw [runFor_succ rfl, step5, runFor_succ rfl, step6]; exact runFor_done rfl
  show wpAny M A (if ((at_ text t 15 t t #[none, none] (-1) (-1) [fr0 t] 1 none sn none).runFor 4).outcome.isSome = true then pure ((at_ text t 15 t t #[none, none] (-1) (-1) [fr0 t] 1 none sn none).runFor 4) else do rule "sre.turn"; Builtin.Re.reDrive (n + 1) ((at_ text t 15 t t #[none, none] (-1) (-1) [fr0 t] 1 none sn none).runFor 4)) Q E s
  rw [e]
  refine KFB.if_not rfl (wpAny_bind (wpAny_rule ?_))
  show wpAny M A (if ((at_ text t 31 (t + 1) (t + 1) #[some t, some (t + 1)] 1 1 [fr0 t] 1 (some true) ((sn2.add 17).add 1) none).runFor 4).outcome.isSome = true then pure ((at_ text t 31 (t + 1) (t + 1) #[some t, some (t + 1)] 1 1 [fr0 t] 1 (some true) ((sn2.add 17).add 1) none).runFor 4) else do rule "sre.turn"; Builtin.Re.reDrive n ((at_ text t 31 (t + 1) (t + 1) #[some t, some (t + 1)] 1 1 [fr0 t] 1 (some true) ((sn2.add 17).add 1) none).runFor 4)) Q E s
  rw [f]
  exact KFB.if_so rfl (wpAny_pure (h _))
theorem rules {l : List Nat} {b : Nat → Bool} {c : Nat → String} {Q : PUnit → Shared → Prop} (h : Q ⟨⟩ s) : wpAny M A (forIn l PUnit.unit fun i (_ : PUnit) => if b i = true then do rule (c i); pure (ForInStep.yield PUnit.unit) else pure (ForInStep.yield PUnit.unit)) Q E s := by
  induction l with
  | nil => rw [List.forIn_nil]; exact wpAny_pure h
  | cons i r ih =>
    rw [List.forIn_cons]
    refine wpAny_bind ?_
    split
    · exact wpAny_bind (wpAny_rule (wpAny_pure ih))
    · exact wpAny_pure ih
theorem found_some {text : Array Nat} {pos t : Nat} (h1 : pos ≤ t) (ht : t < text.size) (hy : isTwin (text.getD t 0) = true) (hno : ∀ j, pos ≤ j → j < t → isTwin (text.getD j 0) = false) {Q : Option Sre.M → Shared → Prop}
    (h : ∀ sn', Q (some (at_ text t 15 t (t + 1) #[some t, some (t + 1)] 1 1 [] 0 (some true) sn' (some .matched))) s) : wpAny M A (Builtin.Re.reRunToEnd (Sre.forSearch twin text 1 pos text.size false)) Q E s := by
  obtain ⟨sn, e⟩ := search_some h1 ht hy hno
  rw [e]
  unfold Builtin.Re.reRunToEnd
  obtain ⟨n, hn⟩ : ∃ n, 2 ^ 64 = n + 2 := ⟨2 ^ 64 - 2, by decide⟩
  rw [hn]
  refine wpAny_bind (drive_some ht hy fun sn' => wpAny_bind (rules ?_))
  exact wpAny_pure (h sn')
theorem found_none {text : Array Nat} {pos : Nat} (hno : ∀ j, pos ≤ j → j < text.size → isTwin (text.getD j 0) = false) {Q : Option Sre.M → Shared → Prop}
    (h : Q none s) : wpAny M A (Builtin.Re.reRunToEnd (Sre.forSearch twin text 1 pos text.size false)) Q E s := by
  obtain ⟨m, e, h1, h2⟩ := search_none hno
  rw [e]
  unfold Builtin.Re.reRunToEnd
  obtain ⟨n, hn⟩ : ∃ n, 2 ^ 64 = n + 1 := ⟨2 ^ 64 - 1, by decide⟩
  rw [hn]
  refine wpAny_bind (drive_none m h1 h2 fun m' hm => wpAny_bind (rules ?_))
  rw [hm]
  exact wpAny_pure h
end
theorem plainAttrs_match : PlainAttrs "re.Match" :=
  ⟨⟨"object.__getattribute__", by rw [typeLookup_type, builtinLookup_eq_fast]; kernel_rfl, by decide +kernel⟩, by rw [typeLookup_type, builtinLookup_eq_fast]; kernel_rfl⟩
theorem slot_group : Slot "re.Match" "group" "re.Match.group" :=
  .of (owner := "re.Match") (n := "group") (by rw [typeLookup_type, builtinLookup_eq_fast]; kernel_rfl) (by decide +kernel) (by decide +kernel) (by decide +kernel)
    (by first | exact .inl (by decide +kernel) | exact .inr (by decide +kernel)) (by rw [isSubtype_type]; kernel_rfl)
theorem type_group : typeOf (.builtin "re.Match.group") = pure (.type "method_descriptor") := by show builtinType _ = _; rw [builtinType_eq_fast]; kernel_rfl
theorem entry_group : entryFor table "re.Match.group" = some Builtin.«re.Match.group» := entryFor_of_tree (by kernel_rfl)
theorem args_group (a b : Value) : argsOk "re.Match.group" ⟨[a, b], []⟩ := by unfold argsOk; kernel_rfl

theorem plainAttrs_pattern : PlainAttrs "re.Pattern" :=
  ⟨⟨"object.__getattribute__", by rw [typeLookup_type, builtinLookup_eq_fast]; kernel_rfl, by decide +kernel⟩, by rw [typeLookup_type, builtinLookup_eq_fast]; kernel_rfl⟩
theorem slot_sub : Slot "re.Pattern" "sub" "re.Pattern.sub" :=
  .of (owner := "re.Pattern") (n := "sub") (by rw [typeLookup_type, builtinLookup_eq_fast]; kernel_rfl) (by decide +kernel) (by decide +kernel) (by decide +kernel)
    (by first | exact .inl (by decide +kernel) | exact .inr (by decide +kernel)) (by rw [isSubtype_type]; kernel_rfl)
theorem type_sub : typeOf (.builtin "re.Pattern.sub") = pure (.type "method_descriptor") := by show builtinType _ = _; rw [builtinType_eq_fast]; kernel_rfl
theorem entry_sub : entryFor table "re.Pattern.sub" = some Builtin.«re.Pattern.sub» := entryFor_of_tree (by kernel_rfl)
theorem args_sub (a b c : Value) : argsOk "re.Pattern.sub" ⟨[a, b, c], []⟩ := by unfold argsOk; kernel_rfl
theorem entry_loop : entryFor table "re.Pattern.sub.loop" = some Builtin.«re.Pattern.sub.loop» := entryFor_of_tree (by kernel_rfl)
theorem lk_fn_call : typeLookup (.type "function") "__call__" = pure (some (.builtin "function.__call__")) := by rw [typeLookup_type, builtinLookup_eq_fast]; kernel_rfl
def matchObj (x : Str) (t : Tok) (p : Addr) (a b li : Int) (tup : Addr) : Obj := { cls := .type "re.Match", data := .fields #[.str x t, .ref p, rawInt a, rawInt b, rawInt li, .ref tup] }
def spanObj (b0 e0 b e : Nat) : Obj := { cls := .type "tuple", data := .seq #[rawInt b0, rawInt e0, rawInt b, rawInt e] }
section
variable {prog : Program} {w : World} {A : Around} {E : Value → Shared → Prop}
theorem group_call {s : Shared} {x : Str} {t u : Tok} {p mo tup : Addr} {a b li : Int} {b0 e0 b1 e1 : Nat} {Q : Value → Shared → Prop} (hm : s.heap.get? mo = some (matchObj x t p a b li tup)) (ht : s.heap.get? tup = some (spanObj b0 e0 b1 e1)) (hsz : x.length ≤ sizeLine)
    (h : ∀ t' tk, Q (.str ⟨x.cps.extract b1 e1⟩ t') { s with toks := tk }) : wpAny (model prog w) A (call (.builtin "re.Match.group") [.ref mo, .int 1 u]) Q E s := by
  refine wpAny_call_entry slot_group ⟨_, hm, rfl⟩ entry_group ?_ (args_group _ _)
  unfold Builtin.«re.Match.group»
  refine wpAny_bind (wpAny_of_eq (a := ()) rfl ?_)
  dsimp only
  refine wpAny_bind ?_
  unfold Builtin.Re.reFound
  refine wpAny_bind (wpAny_fieldsOf hm rfl ?_)
  refine wpAny_bind ?_
  unfold Builtin.Re.reRawItems
  refine wpAny_bind (wpAny_seqItems ht rfl (wpAny_pure (wpAny_pure ?_)))
  have esp : ((some (#[rawInt b0, rawInt e0, rawInt b1, rawInt e1] : Array Value)).getD #[]).map Builtin.Re.reRawOf = #[(b0 : Int), e0, b1, e1] := by simp [Builtin.Re.reRawOf, rawInt]
  rw [esp]
  refine wpAny_bind (wpAny_of_eq (a := 1) rfl ?_)
  unfold Builtin.Re.reGroupText
  refine wpAny_bind ?_
  show wpAny _ _ (if ((b1 : Int) < 0 || (e1 : Int) < 0) = true then _ else _) _ _ _
  refine KFB.if_not (by simp) ?_
  refine wpAny_bind (wpAny_of_eq (a := (x.cps, 0)) rfl ?_)
  show wpAny _ _ (mkStr ⟨x.cps.extract ((b1 : Int).toNat) ((e1 : Int).toNat)⟩) _ _ _
  refine wpAny_mkStr (wpAny_pure ⟨_, rfl, h _ _⟩) ?_
  simp only [Str.length, Array.size_extract, Int.toNat_natCast] at hsz ⊢
  omega

/-- the body of the one lambda -/
theorem lam_body {s : Shared} {env : Env} {x : Str} {t : Tok} {p mo tup : Addr} {a b li : Int} {b0 e0 b1 e1 c : Nat} {m : Str → Option Value} {p1 p2 p3 p4 p5 p6 p7 p8 : Pos} {k1 k2 k3 : Nat} {Q : Value → Shared → Prop} {pl : Sem Bool}
    (hk : env.scope.kind = .function) (hl : env.kindOf "_m" = some .local) (hns : s.heap.Ns env.locals m) (hmv : m "_m" = some (.ref mo))
    (hm : s.heap.get? mo = some (matchObj x t p a b li tup)) (ht : s.heap.get? tup = some (spanObj b0 e0 b1 e1)) (hsz : x.length ≤ sizeLine) (hc : x.cps.extract b1 e1 = #[c])
    (he : eval (.Call (.Attribute (.Name "_m" p1) "group" p2) [.Constant (.int 1) k1 p3] [] p4) env = (do
      let ov ← eval (.Name "_m" p1) env
      standAt p2.atName
      let (f, first) ← holding [ov] (getMethod ov "group" pl)
      callWith p4 f first (backTo p4 (starEach [.Constant (.int 1) k1 p3] env)) []))
    (h : ∀ t' tk, Q (.str ⟨#[92, c]⟩ t') { s with toks := tk }) :
    wpAny (model prog w) A (eval (.BinOp (.Constant (.str (Str.ofString "\\")) k2 p5) .Add (.BoolOp .Or [.Call (.Attribute (.Name "_m" p1) "group" p2) [.Constant (.int 1) k1 p3] [] p4, .Constant (.str (Str.ofString "")) k3 p6] p7) p8) env) Q E s := by
  refine wpAny_BinOp (wpAny_Constant_str (BoolOp_or (MethodCall_ (wpAny_Name (wpAny_loadName_local hk hl hns hmv ?_) (by decide)) he)))
  refine getMethod_builtin (T := "re.Match") (s := { s with toks := s.toks + 1 }) ⟨_, hm, rfl⟩ plainAttrs_match slot_group type_group (fun a e => by cases e; exact ⟨_, hm, rfl⟩) ?_
  refine callWith_method1 (wpAny_items_cons (wpAny_Constant_int (wpAny_items_nil ?_)) rfl) rfl rfl
  refine group_call (s := { s with toks := s.toks + 1 + 1 }) hm ht hsz fun t' tk => ?_
  rw [hc]
  refine P.truthy_str (by show ¬ ((1 : Nat) : Int) ≥ 2 ^ 63; decide) ?_
  have e1 : (((⟨#[c]⟩ : Str).length : Int) != 0) = true := rfl
  rw [e1]
  simp only [if_true]
  refine add_str (fun t' tk => h t' tk) (by show (2 : Nat) ≤ sizeLine; decide)
end
abbrev twinE (p1 p2 p3 p4 p5 p6 p7 p8 : Pos) (k1 k2 k3 : Nat) : Expr :=
  .BinOp (.Constant (.str (Str.ofString "\\")) k2 p5) .Add (.BoolOp .Or [.Call (.Attribute (.Name "_m" p1) "group" p2) [.Constant (.int 1) k1 p3] [] p4, .Constant (.str (Str.ofString "")) k3 p6] p7) p8
def lamScope : Scope := { kind := .function, names := [(Str.ofString "_m", .local)], isGenerator := false, isCoroutine := false }
structure LamFd (fd : FuncData) : Prop where
  body : ∃ p1 p2 p3 p4 p5 p6 p7 p8 k1 k2 k3, fd.body = .expr (twinE p1 p2 p3 p4 p5 p6 p7 p8 k1 k2 k3) ∧ ∃ pl : Env → Sem Bool, ∀ env, eval (.Call (.Attribute (.Name "_m" p1) "group" p2) [.Constant (.int 1) k1 p3] [] p4) env = (do
      let ov ← eval (.Name "_m" p1) env
      standAt p2.atName
      let (f, first) ← holding [ov] (getMethod ov "group" (pl env))
      callWith p4 f first (backTo p4 (starEach [.Constant (.int 1) k1 p3] env)) [])
  scope : fd.scope = lamScope
  clo : fd.closure = []
  bind : ∀ v, bindArgs fd ⟨[v], []⟩ = pure [(Str.ofString "_m", v)]

section
variable {prog : Program} {w : World} {A : Around}
theorem lam_call {s : Shared} {f : Addr} {o : Obj} {fd : FuncData} {x : Str} {t : Tok} {p mo tup : Addr} {a b li : Int} {b0 e0 b1 e1 c : Nat} {Q : Value → Shared → Prop} {E : Value → Shared → Prop} (D : LamFd fd) (ho : s.heap.get? f = some o) (hd : o.data = .func fd) (hcd : s.heap.CodeRec fd.code fd.qualname)
    (hlim : s.heap.NoLimit) (hroom : A.depth < recursionLimit) (hm : s.heap.get? mo = some (matchObj x t p a b li tup)) (ht : s.heap.get? tup = some (spanObj b0 e0 b1 e1)) (hsz : x.length ≤ sizeLine) (hc : x.cps.extract b1 e1 = #[c])
    (h : ∀ h' t' tk, (∀ b o, s.heap.get? b = some o → h'.get? b = some o) → Q (.str ⟨#[92, c]⟩ t') { s with heap := h', toks := tk }) : wpAny (model prog w) A (call (.ref f) [.ref mo]) Q E s := by
  obtain ⟨p1, p2, p3, p4, p5, p6, p7, p8, k1, k2, k3, hb, pl, he⟩ := D.body
  refine wpAny_call (kla_callFunE hroom ho hd (by rw [D.scope]; rfl) (by rw [D.scope]; rfl) hb hcd ?_)
  rw [D.bind, D.clo, D.scope]
  refine wpAny_pure (wpAny_newFunctionEnv (by intro y hy; simp [lamScope] at hy; rw [hy]; simp) (by intro y hy; simp at hy; rw [hy]; rfl) (fun h₁ hns hsb => ⟨hlim.fresh _ hsb, ?_⟩) rfl)
  have hk₁ : ∀ b o, s.heap.get? b = some o → h₁.get? b = some o := fun b o e => hsb.extBut b o (Nat.ne_of_lt (Heap.lt_size e)) (Heap.get?_push_of_some _ e)
  obtain ⟨env, henv⟩ : ∃ q, q = newEnv lamScope s.heap.objs.size fd.globals [] (fd.qualname ++ ".<locals>.") (some f) fd.code none fd.builtins := ⟨_, rfl⟩
  rw [← henv]
  refine kla_codeExpr (falso ?_)
  refine lam_body (m := fun y => [((Str.ofString "_m"), Value.ref mo)].reverse.lookup y) (by rw [henv]; rfl) (by rw [henv]; rfl) (by rw [henv]; exact hns) rfl (hk₁ _ _ hm) (hk₁ _ _ ht) hsz hc (he env) fun t' tk => h _ _ _ hk₁
end
def escT (x : List Nat) : List Nat := x.flatMap fun c => if isTwin c then [92, c] else [c]
theorem escT_append (x y : List Nat) : escT (x ++ y) = escT x ++ escT y := by simp [escT]
theorem escT_free : ∀ x : List Nat, (∀ c ∈ x, isTwin c = false) → escT x = x
  | [], _ => rfl
  | c :: r, h => by
    have h1 := h c (List.mem_cons_self ..)
    have ih := escT_free r fun d hd => h d (List.mem_cons_of_mem _ hd)
    unfold escT at ih ⊢
    rw [List.flatMap_cons, h1, ih]; rfl
theorem escT_len (x : List Nat) : (escT x).length ≤ 2 * x.length := by
  induction x with
  | nil => simp [escT]
  | cons c r ih =>
    unfold escT at ih ⊢
    rw [List.flatMap_cons, List.length_append, List.length_cons]
    split <;> simp only [List.length_cons, List.length_nil] <;> omega
/-- the first of its signs behind a place, or none -/
theorem first_twin (x : List Nat) (d : Nat) : (∀ j, d ≤ j → j < x.length → isTwin (x.getD j 0) = false) ∨ ∃ t, d ≤ t ∧ t < x.length ∧ isTwin (x.getD t 0) = true ∧ ∀ j, d ≤ j → j < t → isTwin (x.getD j 0) = false := by
  by_cases h : ∃ t, d ≤ t ∧ t < x.length ∧ isTwin (x.getD t 0) = true
  · right
    have : ∀ n t, t = d + n → t < x.length → isTwin (x.getD t 0) = true → ∃ t, d ≤ t ∧ t < x.length ∧ isTwin (x.getD t 0) = true ∧ ∀ j, d ≤ j → j < t → isTwin (x.getD j 0) = false := by
      intro n
      induction n using Nat.strongRecOn with
      | _ n ih =>
        intro t ht hl hy
        by_cases hq : ∃ j, d ≤ j ∧ j < t ∧ isTwin (x.getD j 0) = true
        · obtain ⟨j, h1, h2, h3⟩ := hq
          exact ih (j - d) (by omega) j (by omega) (by omega) h3
        · exact ⟨t, by omega, hl, hy, fun j h1 h2 => by
            cases hz : isTwin (x.getD j 0) with
            | false => rfl
            | true => exact absurd ⟨j, h1, h2, hz⟩ hq⟩
    obtain ⟨t, h1, h2, h3⟩ := h
    exact this (t - d) t (by omega) h2 h3
  · left
    intro j h1 h2
    cases hz : isTwin (x.getD j 0) with
    | false => rfl
    | true => exact absurd ⟨j, h1, h2, hz⟩ h

structure PatAt (h : Heap) (p : Addr) : Prop where
  ob : ∃ o tx tt fl ft tp tq items n, h.get? p = some o ∧ o.cls = .type "re.Pattern" ∧ o.dict = none ∧ o.data = .fields #[.str tx tt, .int fl ft, .int 1 0, .none, .none, .ref tp, .int 0 0] ∧ h.get? tp = some tq ∧ tq.data = .seq items n ∧ (items.map Builtin.Re.reRawOf).map (·.toNat) = twin
theorem PatAt.keeps {h h' : Heap} {p : Addr} (x : PatAt h p) (hk : ∀ b o, h.get? b = some o → h'.get? b = some o) : PatAt h' p := by
  obtain ⟨o, tx, tt, fl, ft, tp, tq, items, n, h1, h2, h3, h4, h5, r⟩ := x.ob
  exact ⟨o, tx, tt, fl, ft, tp, tq, items, n, hk _ _ h1, h2, h3, h4, hk _ _ h5, r⟩

section
variable {prog : Program} {w : World} {A : Around} {E : Value → Shared → Prop}
theorem target {s : Shared} {p : Addr} {x : Str} {t : Tok} {Q : Builtin.Re.ReTarget → Shared → Prop} (P : PatAt s.heap p) (h : Q ⟨.ref p, .str x t, twin, x.cps, 0, 1, 0, x.cps.size⟩ s) : wpAny (model prog w) A (Builtin.Re.reWholeTarget (.ref p) (.str x t)) Q E s := by
  obtain ⟨o, tx, tt, fl, ft, tp, tq, items, n, h1, h2, h3, h4, h5, h6, h7⟩ := P.ob
  unfold Builtin.Re.reWholeTarget
  refine wpAny_bind (wpAny_fieldsOf h1 h4 ?_)
  refine wpAny_bind (wpAny_of_eq (a := (x.cps, 0)) rfl ?_)
  dsimp only
  refine KFB.if_not rfl (KFB.if_not rfl ?_)
  refine wpAny_bind (wpAny_of_eq (a := ()) rfl ?_)
  refine wpAny_bind ?_
  unfold Builtin.Re.reRawItems
  refine wpAny_bind (wpAny_seqItems h5 h6 (wpAny_pure ?_))
  refine wpAny_pure ?_
  show Q ⟨.ref p, .str x t, (items.map Builtin.Re.reRawOf).map (·.toNat), x.cps, 0, 1, 0, x.cps.size⟩ s
  rw [h7]; exact h

theorem newMatch {s : Shared} {p : Addr} {x : Str} {t : Tok} {text : Array Nat} {k : Nat} {sn : Sre.Seen} {Q : Value → Shared → Prop}
    (h : ∀ (h' : Heap) (mo tup : Addr), (∀ b o, s.heap.get? b = some o → h'.get? b = some o) → h'.get? mo = some (matchObj x t p ((0 : Nat) : Int) (text.size : Int) 1 tup) → h'.get? tup = some (spanObj k (k + 1) k (k + 1)) → Q (.ref mo) { s with heap := h' }) :
    wpAny (model prog w) A (Builtin.Re.reNewMatch (.ref p) (.str x t) 1 0 text.size (at_ text k 15 k (k + 1) #[some k, some (k + 1)] 1 1 [] 0 (some true) sn (some .matched))) Q E s := by
  unfold Builtin.Re.reNewMatch
  dsimp only
  have e1 : ((List.range 1).any fun g => match (#[some k, some (k + 1)] : Array (Option Nat)).getD (2 * g) none, (#[some k, some (k + 1)] : Array (Option Nat)).getD (2 * g + 1) none with | some b, some e => ((2 * g + 1 : Nat) : Int) ≤ (1 : Int) && e < b | _, _ => false) = false := by
    simp [List.range_succ]
  refine KFB.if_not e1 ?_
  refine wpAny_bind (wpAny_newTuple ?_ (by show (4 : Nat) ≤ sizeLine; decide))
  refine wpAny_newObj_type ?_ (by show (6 : Nat) ≤ sizeLine + 2; decide)
  exact h _ _ s.heap.objs.size (fun b o e => Heap.get?_push_of_some _ (Heap.get?_push_of_some _ e)) (Heap.get?_push_size _ rfl) (Heap.get?_push_of_some _ (Heap.get?_push_size _ rfl))
end
def seg (x : List Nat) (a b : Nat) : List Nat := (x.drop a).take (b - a)
theorem seg_arr (x : List Nat) (a b : Nat) : (⟨x.toArray.extract a b⟩ : Str) = ⟨(seg x a b).toArray⟩ := by
  simp [seg, List.extract_eq_take_drop]
theorem seg_mem {x : List Nat} {a b c : Nat} (h : c ∈ seg x a b) : ∃ j, a ≤ j ∧ j < b ∧ j < x.length ∧ c = x.getD j 0 := by
  unfold seg at h
  obtain ⟨i, hi, rfl⟩ := List.mem_iff_getElem.mp h
  rw [List.length_take, List.length_drop] at hi
  refine ⟨a + i, by omega, by omega, by omega, ?_⟩
  rw [List.getElem_take, List.getElem_drop]
  rw [List.getD_eq_getElem?_getD, List.getElem?_eq_getElem (by omega)]; rfl
theorem seg_free {x : List Nat} {a b : Nat} (h : ∀ j, a ≤ j → j < b → j < x.length → isTwin (x.getD j 0) = false) : escT (seg x a b) = seg x a b :=
  escT_free _ fun c hc => by
    obtain ⟨j, h1, h2, h3, rfl⟩ := seg_mem hc
    exact h j h1 h2 h3
theorem take_seg (x : List Nat) {a b : Nat} (h : a ≤ b) : x.take b = x.take a ++ seg x a b := by
  unfold seg
  have : b = a + (b - a) := by omega
  rw [this, List.take_add]; congr 2; omega
theorem take_one (x : List Nat) {t : Nat} (h : t < x.length) : x.take (t + 1) = x.take t ++ [x.getD t 0] := by
  rw [List.take_add_one, List.getD_eq_getElem?_getD, List.getElem?_eq_getElem h]; rfl
theorem seg_len (x : List Nat) (a b : Nat) : (seg x a b).length ≤ x.length := by
  unfold seg; rw [List.length_take, List.length_drop]; omega
theorem getD_arr (x : List Nat) (j : Nat) : x.toArray.getD j 0 = x.getD j 0 := by simp [Array.getD_eq_getD_getElem?, List.getD_eq_getElem?_getD]
theorem one_arr (x : List Nat) {t : Nat} (h : t < x.length) : x.toArray.extract t (t + 1) = #[x.getD t 0] := by
  have h1 := congrArg Str.cps (seg_arr x t (t + 1))
  have : seg x t (t + 1) = [x.getD t 0] := by
    unfold seg
    rw [show t + 1 - t = 1 by omega, List.drop_eq_getElem_cons h, List.getD_eq_getElem?_getD, List.getElem?_eq_getElem h]; rfl
  rw [this] at h1
  exact h1

theorem joins_nil : ∀ ts : List (List Nat), joins [] ts = ts.flatten
  | [] => rfl
  | [x] => by simp [joins]
  | x :: y :: r => by
    have ih := joins_nil (y :: r)
    show x ++ ([] ++ joins [] (y :: r)) = _
    rw [ih]; simp
theorem lsum_flatten (ts : List (List Nat)) : lsum ts = ts.flatten.length := by simp [lsum, List.length_flatten]

section
variable {prog : Program} {w : World} {A : Around}
abbrev loopArgs (p f pl : Addr) (x : Str) (t : Tok) (n d : Nat) : Args := ⟨[.ref p, .str x t, .ref f, rawInt 1, rawInt 0, rawInt n, rawInt d, rawInt d, .bool false, .ref pl, .bool false], []⟩
theorem push_piece {s : Shared} {pl : Addr} {l : List (Str × Tok)} {y : Str} {u : Tok} {E : Value → Shared → Prop} {Q : Unit → Shared → Prop} (hL : s.heap.PlainList pl (strValues l).toArray) (hsz : l.length ≤ 16777216)
    (h : ∀ h', h'.PlainList pl (strValues (l ++ [(y, u)])).toArray → Heap.SameBut pl s.heap h' → Q () { s with heap := h' }) : wpAny (model prog w) A (updateSeq pl fun x => x.push (.str y u)) Q E s := by
  obtain ⟨k, hk⟩ := hL
  have hs : (strValues l).toArray.size ≤ sizeLine := by rw [sizeLine_val]; simp [strValues]; exact hsz
  refine wpAny_updateSeq hk rfl (h _ ⟨k + 1, ?_⟩ (Heap.SameBut.update ..)) hs (by rw [Array.size_push]; omega)
  rw [Heap.get?_update_self _ hk (by rw [Obj.mapSeq_push_plain]; rfl), Obj.mapSeq_push_plain]
  simp [strValues]
theorem plain_loop : plainId "re.Pattern.sub.loop" = true := by decide +kernel

theorem sub_loop {b0 : Heap} {p f pl : Addr} {o : Obj} {fd : FuncData} {x : List Nat} {t : Tok} {R : Result → Shared → Prop} (P : PatAt b0 p) (D : LamFd fd) (ho : b0.get? f = some o) (hd : o.data = .func fd) (hcd : b0.CodeRec fd.code fd.qualname) (hlim : b0.NoLimit) (hroom : A.depth < recursionLimit)
    (hpl : b0.get? pl = none) (hx : 2 * x.length ≤ 16777216) : ∀ (k d n : Nat) (l : List (Str × Tok)) (ts : List (List Nat)) (s : Shared), x.length + 1 - d ≤ k → d ≤ x.length → (∀ b o, b0.get? b = some o → s.heap.get? b = some o) → s.heap.PlainList pl (strValues l).toArray →
      l.map (·.1) = ts.map (fun y => ⟨y.toArray⟩) → ts.flatten = escT (x.take d) → l.length ≤ 2 * d → (∀ h' t' tk, (∀ b o, b0.get? b = some o → h'.get? b = some o) → R (.ok (.ret (.str ⟨(escT x).toArray⟩ t'))) { s with heap := h', toks := tk }) →
      codeAny (model prog w) A (.builtin "re.Pattern.sub.loop" (loopArgs p f pl ⟨x.toArray⟩ t n d)) R s := by
  intro k
  induction k with
  | zero => intro d n l ts s hk hdl; omega
  | succ k ih =>
    intro d n l ts s hk hdl hold hL hts hfl hll hR
    refine codeAny_builtin entry_loop ?_
    rw [Around.under_plainId plain_loop _]
    unfold Builtin.«re.Pattern.sub.loop»
    dsimp only [rawInt]
    refine wpAny_bind (target (P.keeps hold) ?_)
    refine KFB.if_not rfl ?_
    have hsz : x.toArray.size = x.length := by simp
    have hpd : ∀ (h' : Heap), Heap.SameBut pl s.heap h' → ∀ b o, b0.get? b = some o → h'.get? b = some o := fun h' hs b o e => (hs.2 b fun q => by rw [q, hpl] at e; cases e).trans (hold b o e)
    refine wpAny_bind ?_
    show wpAny _ _ (Builtin.Re.reNextFound ⟨.ref p, .str ⟨x.toArray⟩ t, twin, x.toArray, 0, 1, 0, x.toArray.size⟩ d false) _ _ _
    unfold Builtin.Re.reNextFound
    rcases first_twin x d with hno | ⟨q, h1, hq2, hy, hno⟩
    · refine found_none (pos := d) (fun j h1 h2 => by rw [getD_arr]; exact hno j h1 (by rw [hsz] at h2; exact h2)) ?_
      dsimp only
      have fin : ∀ (l' : List (Str × Tok)) (ts' : List (List Nat)) (h' : Heap) (tk' : Nat), (∀ b o, b0.get? b = some o → h'.get? b = some o) → h'.PlainList pl (strValues l').toArray → l'.map (·.1) = ts'.map (fun y => ⟨y.toArray⟩) → ts'.flatten = escT x →
          wpAny (model prog w) A.in1 (do
            let joiner ← Builtin.Re.reSlice x.toArray 0 0 0
            let r ← seqItems? (.ref pl)
            if (r.getD #[]).isEmpty = true then do
              let text ← pure joiner
              if false = true then do let v ← (holding [text] (do let i ← mkInt n; newTuple [text, i])); ret v else ret text
            else do
              let text ← call (.builtin (if (0 == 0) = true then "str.join" else "bytes.join")) [joiner, .ref pl]
              if false = true then do let v ← (holding [text] (do let i ← mkInt n; newTuple [text, i])); ret v else ret text)
            (fun fin s' => match fin with | .done f => R (.ok f) s' | .again c' => c'.quiet = true ∧ codeAny (model prog w) A c' R s') (fun e s' => R (.error e) s') { s with heap := h', toks := tk' } := by
        intro l' ts' h' tk' hk' hl' hm' hf'
        refine wpAny_bind (wpAny_mkStr ?_ (by show (x.toArray.extract 0 0).size ≤ sizeLine; simp))
        obtain ⟨kk, hkk⟩ := id hl'
        refine wpAny_bind (wpAny_seqItems (s := { s with heap := h', toks := tk' + 1 }) hkk rfl ?_)
        split
        · rename_i he
          refine wpAny_bind (wpAny_pure (KFB.if_not rfl (wpAny_pure ?_)))
          have hl0 : l' = [] := by
            cases l' with
            | nil => rfl
            | cons a r => simp [strValues] at he
          have hts0 : ts' = [] := by rw [hl0] at hm'; simpa using hm'.symm
          have he0 : escT x = [] := by rw [← hf', hts0]; rfl
          have := hR h' tk' (tk' + 1) hk'
          rw [he0] at this
          have e3 : x.toArray.extract 0 0 = #[] := by simp
          show R (.ok (.ret (.str ⟨x.toArray.extract 0 0⟩ tk'))) _
          rw [e3]; exact this
        · refine wpAny_bind ?_
          have e3 : x.toArray.extract 0 0 = #[] := by simp
          show wpAny _ _ (call (.builtin "str.join") [.str ⟨x.toArray.extract 0 0⟩ tk', .ref pl]) _ _ _
          rw [e3]
          refine SC.join (x := ⟨([] : List Nat).toArray⟩) (l := l') (texts := ts'.map fun y => ⟨y.toArray⟩) ⟨_, hkk, rfl, kk, rfl⟩ hm' (joinOk_of [] ts' ?_) fun t' tk => ?_
          · rw [lsum_flatten, hf']; have := escT_len x; simp; omega
          · refine KFB.if_not rfl (wpAny_pure ?_)
            have e4 : Txt.join ⟨([] : List Nat).toArray⟩ (ts'.map fun y => (⟨y.toArray⟩ : Str)) = ⟨(escT x).toArray⟩ := by
              unfold Txt.join; rw [StrLaws.glued_eq_join, join_is, joins_nil, hf']
            rw [e4]
            exact hR h' t' tk hk'
      split
      · rename_i hdx
        have hdx' : d < x.length := by rw [hsz] at hdx; exact hdx
        refine wpAny_bind (wpAny_mkStr (wpAny_bind (push_piece hL (by omega) fun h' hl' hs' => ?_)) ?_)
        · refine fin (l ++ [(⟨x.toArray.extract ((d : Int).toNat) x.toArray.size⟩, s.toks)]) (ts ++ [seg x d x.length]) h' _ (hpd h' hs') hl' ?_ ?_
          · rw [List.map_append, List.map_append, hts]
            congr 1
            show [(⟨x.toArray.extract ((d : Int).toNat) x.toArray.size⟩ : Str)] = [⟨(seg x d x.length).toArray⟩]
            rw [hsz, ← seg_arr]; rfl
          · rw [List.flatten_append, hfl]
            have e5 := take_seg x hdl
            rw [List.take_length] at e5
            rw [show ([seg x d x.length] : List (List Nat)).flatten = seg x d x.length by simp]
            conv => rhs; rw [e5, escT_append, seg_free (fun j a b c => hno j a c)]
        · show (x.toArray.extract ((d : Int).toNat) x.toArray.size).size ≤ sizeLine
          rw [sizeLine_val, Array.size_extract, hsz]; omega
      · rename_i hdx
        have hdx' : d = x.length := by rw [hsz] at hdx; have : ¬ d < x.length := hdx; omega
        refine fin l ts s.heap s.toks hold hL hts ?_
        rw [hfl, hdx', List.take_length]
    · refine found_some (pos := d) (t := q) h1 (by rw [hsz]; exact hq2) (by rw [getD_arr]; exact hy) (fun j a b => by rw [getD_arr]; exact hno j a b) fun sn => ?_
      dsimp only
      have go : ∀ (l' : List (Str × Tok)) (ts' : List (List Nat)) (h' : Heap) (tk' : Nat), (∀ b o, b0.get? b = some o → h'.get? b = some o) → h'.PlainList pl (strValues l').toArray → l'.map (·.1) = ts'.map (fun y => ⟨y.toArray⟩) → ts'.flatten = escT (x.take q) → l'.length ≤ 2 * q + 1 →
          wpAny (model prog w) A.in1 (do
            let found ← Builtin.Re.reNewMatch (Value.ref p) (Value.str { cps := x.toArray } t) 1 0 x.toArray.size (at_ x.toArray q 15 q (q + 1) #[some q, some (q + 1)] 1 1 [] 0 (some true) sn (some .matched))
            let item ← holding [found] (if (1 == 1) = true then call (Value.ref f) [found] else do
              let y ← Builtin.Re.reFound found
              Builtin.Re.reExpand (Value.ref f) y)
            if (item != Value.none) = true then do
              updateSeq pl fun x => x.push item
              again (.builtin "re.Pattern.sub.loop" ⟨[.ref p, .str ⟨x.toArray⟩ t, .ref f, .int 1 0, .int 0 0, .int (↑n + 1) 0, .int (↑(q + 1)) 0, .int (↑(q + 1)) 0, .bool ((q + 1) == q), .ref pl, .bool false], []⟩)
            else again (.builtin "re.Pattern.sub.loop" ⟨[.ref p, .str ⟨x.toArray⟩ t, .ref f, .int 1 0, .int 0 0, .int (↑n + 1) 0, .int (↑(q + 1)) 0, .int (↑(q + 1)) 0, .bool ((q + 1) == q), .ref pl, .bool false], []⟩))
            (fun fin s' => match fin with | .done f => R (.ok f) s' | .again c' => c'.quiet = true ∧ codeAny (model prog w) A c' R s') (fun e s' => R (.error e) s') { s with heap := h', toks := tk' } := by
        intro l' ts' h' tk' hk' hl' hm' hf' hlen'
        refine wpAny_bind (newMatch fun h2 mo tup hk2 hmo htup => ?_)
        refine wpAny_bind (wpAny_holding (KFB.if_so rfl ?_))
        have hk02 : ∀ b o, b0.get? b = some o → h2.get? b = some o := fun b o e => hk2 b o (hk' b o e)
        refine lam_call (s := { s with heap := h2, toks := tk' }) D (hk02 _ _ ho) hd (let ⟨c, oc, vs, tt, e1, e2, e3⟩ := hcd; ⟨c, oc, vs, tt, e1, hk02 _ _ e2, e3⟩) (hlim.keeps hk02) hroom hmo htup (c := x.getD q 0) (by show x.toArray.size ≤ sizeLine; rw [hsz, sizeLine_val]; omega) (one_arr x hq2) fun h3 t3 tk3 hk3 => ?_
        refine KFB.if_so rfl ?_
        have hl3 : h3.PlainList pl (strValues l').toArray := let ⟨z, hz⟩ := hl'; ⟨z, hk3 _ _ (hk2 _ _ hz)⟩
        have hk03 : ∀ b o, b0.get? b = some o → h3.get? b = some o := fun b o e => hk3 b o (hk02 b o e)
        refine wpAny_bind (push_piece (s := { s with heap := h3, toks := tk3 }) hl3 (by omega) fun h4 hl4 hs4 => wpAny_pure ⟨Code.quiet_builtin _ (by decide +kernel), ?_⟩)
        have hb : ((q + 1) == q) = false := by simp
        rw [hb]
        refine ih (q + 1) (n + 1) (l' ++ [(⟨#[92, x.getD q 0]⟩, t3)]) (ts' ++ [[92, x.getD q 0]]) { s with heap := h4, toks := tk3 } (by omega) (by omega) (fun b o e => (hs4.2 b fun z => by rw [z, hpl] at e; cases e).trans (hk03 b o e)) hl4 ?_ ?_ ?_ hR
        · rw [List.map_append, List.map_append, hm']; rfl
        · rw [List.flatten_append, hf', take_one x hq2, escT_append]
          congr 1
          unfold escT
          rw [List.flatMap_cons, hy]; rfl
        · rw [List.length_append]; show l'.length + 1 ≤ _; omega
      split
      · rename_i hdx
        have hdx' : d < q := hdx
        refine wpAny_bind (wpAny_mkStr (wpAny_bind (push_piece hL (by omega) fun h' hl' hs' => ?_)) ?_)
        · refine KFB.if_not rfl (go (l ++ [(⟨x.toArray.extract ((d : Int).toNat) q⟩, s.toks)]) (ts ++ [seg x d q]) h' _ (hpd h' hs') hl' ?_ ?_ ?_)
          · rw [List.map_append, List.map_append, hts]
            congr 1
            show [(⟨x.toArray.extract ((d : Int).toNat) q⟩ : Str)] = [⟨(seg x d q).toArray⟩]
            rw [← seg_arr]; rfl
          · rw [List.flatten_append, hfl, show ([seg x d q] : List (List Nat)).flatten = seg x d q by simp]
            conv => rhs; rw [take_seg x h1, escT_append, seg_free (fun j a b c => hno j a b)]
          · rw [List.length_append]; show l.length + 1 ≤ _; omega
        · show (x.toArray.extract ((d : Int).toNat) q).size ≤ sizeLine
          rw [sizeLine_val, Array.size_extract, hsz]; omega
      · rename_i hdx
        have hdx' : d = q := by have : ¬ d < q := hdx; omega
        refine KFB.if_not rfl (go l ts s.heap s.toks hold hL hts ?_ (by omega))
        rw [hfl, hdx']
end
theorem sub_bytearray_str : isSubtype (.type "str") (.type "bytearray") = pure false := by rw [isSubtype_type]; kernel_rfl
section
variable {prog : Program} {w : World} {A : Around} {E : Value → Shared → Prop}
theorem sub_call {s : Shared} {p f : Addr} {o : Obj} {fd : FuncData} {x : List Nat} {t : Tok} {Q : Value → Shared → Prop} (P : PatAt s.heap p) (D : LamFd fd) (ho : s.heap.get? f = some o) (hoc : o.cls = .type "function") (hd : o.data = .func fd) (hcd : s.heap.CodeRec fd.code fd.qualname) (hlim : s.heap.NoLimit) (hroom : A.depth < recursionLimit)
    (hx : 2 * x.length ≤ 16777216) (h : ∀ h' t' tk, (∀ b o, s.heap.get? b = some o → h'.get? b = some o) → Q (.str ⟨(escT x).toArray⟩ t') { s with heap := h', toks := tk }) :
    wpAny (model prog w) A (call (.builtin "re.Pattern.sub") [.ref p, .ref f, .str ⟨x.toArray⟩ t]) Q E s := by
  obtain ⟨oP, tx, tt, fl, ft, tp, tq, items, n, h1, h2, h3, h4, h5⟩ := P.ob
  refine wpAny_call (codeAny_call_builtin slot_sub.plain entry_sub (slot_sub.check _ _ _ _ _ _ _ _ ⟨_, h1, h2⟩ (args_sub _ _ _) ?_))
  unfold Builtin.«re.Pattern.sub» Builtin.Re.reSubstitute
  dsimp only
  refine wpAny_bind (wpAny_of_eq (a := [some (.ref f), some (.str ⟨x.toArray⟩ t), none]) (by first | rfl | kernel_rfl) ?_)
  dsimp only
  refine wpAny_bind (wpAny_pure ?_)
  refine wpAny_bind (wpAny_specialOf (T := "function") ⟨_, ho, hoc⟩ lk_fn_call ?_)
  simp only [Option.isSome_some, if_true]
  refine wpAny_bind (wpAny_pure (wpAny_bind (wpAny_pure ?_)))
  dsimp only
  refine wpAny_bind (wpAny_holding (target P ?_))
  refine KFB.if_so rfl ?_
  unfold Builtin.Re.reNotHeld
  refine wpAny_bind ?_
  refine wpAny_bind (wpAny_isInstance (T := "str") (b := false) (typeIs_str _ _ t) sub_bytearray_str ?_)
  refine KFB.if_not rfl (wpAny_pure ?_)
  refine wpAny_bind (wpAny_newObj_type ?_ (by show (0 : Nat) ≤ sizeLine; exact Nat.zero_le _))
  refine wpAny_pure ⟨Code.quiet_builtin _ (by decide +kernel), ?_⟩
  exact sub_loop (b0 := s.heap) P D ho hd hcd hlim hroom (Heap.get?_none_of_le (Nat.le_refl _)) hx (x.length + 1) 0 0 [] [] _ (by omega) (by omega) (fun b o e => Heap.get?_push_of_some _ e) ⟨0, Heap.get?_push_size _ rfl⟩ rfl rfl (by simp) fun h' t' tk hk => h h' t' tk hk
end

theorem among_snoc (pos : Pos) (a : Int) (u : Tok) (b : Int) (u2 : Tok) (c : Value) : ∀ l : List Value, TriplesOk l → codeAmong pos (l ++ [.int a u, .int b u2, c]) = match codeAmong pos l with
    | some z => some z
    | none => if (a == pos.line && b == pos.col) = true then some c else none := fun l h => by
  fun_induction TriplesOk l with
  | case1 => simp [codeAmong]
  | case2 a' t b' u' x rest ih =>
    simp only [List.cons_append, codeAmong]
    split
    · rfl
    · exact ih h
  | case3 l h1 h2 => exact h.elim

section
variable {C : Cx} {sc : Scope}
theorem Inv.retab {σ : List Addr} {st : St} {h h' : Heap} {g : Array GenState} {os : OsState} (I : Inv C σ st h g os) (hx : Heap.ExtBut C.G.P h h') (ht : TabOk C h') : Inv C σ st h' g os := by
  refine ⟨I.ok, ?_, I.len, I.nd, ?_, I.ne, I.own, ht, I.gens, I.eos, I.enb, fun p hp => ⟨hx _ _ (I.pin p hp).2.2.2 (I.pin p hp).1, (I.pin p hp).2⟩, I.cel⟩
  · obtain ⟨m, Fm, l⟩ := I.fr
    exact ⟨m, ⟨Fm.ns.extBut hx (Ne.symm (Nat.ne_of_lt I.P_lt)), fun b ob e => hx _ _ (fun q => by rw [q, I.ok.noP] at e; cases e) (Fm.keep b ob e), Fm.above⟩, l⟩
  · intro k o e
    obtain ⟨b, ob, e1, e2, e3⟩ := I.obj k o e
    exact ⟨b, ob, e1, hx _ _ (I.ne b (List.mem_of_getElem? e1)).2 e2, e3⟩
theorem TabOk.snoc {h h' : Heap} {ps : Array Value} {pos : Pos} {c' : Addr} {oc : Obj} (hP : h.get? C.G.P = some (tabObj ps)) (ht : TriplesOk ps.toList) (hold : ∀ pos c, codeAmong pos ps.toList = some c → ∃ a o, c = .ref a ∧ h.get? a = some o ∧ C.G.code pos o ∧ o.cls = .type "code" ∧ ∃ vs, o.data = .fields vs)
    (hx : Heap.ExtBut C.G.P h h') (hP' : h'.get? C.G.P = some (tabObj (ps ++ #[rawInt pos.line, rawInt pos.col, .ref c']))) (hc : h'.get? c' = some oc) (hcode : ∀ q : Pos, q.line = pos.line → q.col = pos.col → C.G.code q oc) (hcls : oc.cls = .type "code") (hf : ∃ vs, oc.data = .fields vs) : TabOk C h' := by
  refine ⟨_, hP', ?_, fun q c hq => ?_⟩
  · have : (ps ++ #[rawInt pos.line, rawInt pos.col, .ref c']).toList = ps.toList ++ [rawInt pos.line, rawInt pos.col, .ref c'] := by simp
    rw [this]; exact TriplesOk_snoc _ _ _ _ ht
  · have : (ps ++ #[rawInt pos.line, rawInt pos.col, .ref c']).toList = ps.toList ++ [.int pos.line 0, .int pos.col 0, .ref c'] := by simp [rawInt]
    rw [this, among_snoc _ _ _ _ _ _ _ ht] at hq
    cases hz : codeAmong q ps.toList with
    | some z =>
      rw [hz] at hq
      obtain ⟨a, o, e1, e2, e3, e4, vs, e5⟩ := hold q z hz
      cases hq
      exact ⟨a, o, e1, hx _ _ (fun w => by rw [w, hP] at e2; cases e2; cases e4) e2, e3, e4, vs, e5⟩
    | none =>
      rw [hz] at hq
      simp only at hq
      split at hq
      · rename_i hpos
        cases hq
        have := Bool.and_eq_true_iff.mp hpos
        have l1 : (pos.line : Int) = q.line := by simpa using this.1
        have l2 : (pos.col : Int) = q.col := by simpa using this.2
        exact ⟨c', oc, rfl, hc, hcode q (by omega) (by omega), hcls, hf⟩
      · cases hq
end
section
variable {M : Model} {A : Around} {E : Value → Shared → Prop} {s : Shared} {name qual : Str} {params : Arguments} {body : Expr} {scope : Scope} {env : Env} {c P : Addr} {ps : Array Value} {pos : Pos} {firstLine : Nat} {mg : Str → Option Value} {Q : Value → Shared → Prop}
/-- a lambda is made, its code anew: what the library's word of it gives, and the class of its code -/
theorem lam_made (hcl : closureFor scope env = pure []) (hge0 : env.globals = mainGlobals) (hg : s.heap.Ns mainGlobals mg) (hcode : env.code = .ref c) (C : CodeHd s.heap c P) (hP : s.heap.get? P = some (tabObj ps)) (ht : TriplesOk ps.toList)
    (hnf : codeAmong pos ps.toList = none) (hgP : mainGlobals ≠ P) (hb : s.heap.BuiltinsAt mg P)
    (h : ∀ c' oc vs t h' tk, Heap.ExtBut P s.heap h' → c' < h'.objs.size → h'.get? c' = some oc → oc.cls = .type "code" → oc.data = .fields vs → vs[1]? = some (.str qual t) → h'.get? P = some (tabObj (ps ++ #[rawInt pos.line, rawInt pos.col, .ref c'])) →
      Q (.ref h'.objs.size) { s with heap := h'.push (kla_obj name qual params body scope [] ((mg "__name__").getD .none) c' .none), toks := tk }) :
    wpAny M A (makeFunction name qual params (.expr body) scope env [] [] [] pos firstLine) Q E s := by
  obtain ⟨bm, ob, hbm, hne0, _, hneP, hbo, hcls, hdict, hdata⟩ := hb
  rw [makeFunction_eq]
  simp only [List.zip_nil_right, List.filterMap_nil, List.isEmpty_nil, if_true, pure_bind]
  unfold makeTail
  rw [hcl, hge0]
  refine wpAny_bind (wpAny_pure ?_)
  simp only [List.isEmpty_nil, if_true]
  refine wpAny_bind (wpAny_pure ?_)
  refine wpAny_bind (wpAny_functionCodeX hcode (C.code hP ht) (C.tab hP) hnf fun c' h' tk hx hge hlt _ hrec htb htb2 => ?_)
  have hg' := hg.extBut hx hgP
  refine wpAny_bind (wpAny_builtinsFor hg' hbm hne0 (hx _ _ hneP hbo) hcls hdict hdata ?_)
  refine wpAny_bind (wpAny_nsGet hg' ?_)
  obtain ⟨P', _, _, ⟨oc, vs, k1, k2, k3, _⟩, _⟩ := htb2
  obtain ⟨c2, oc2, vs2, t, q1, q2, q3, q4⟩ := hrec
  cases q1
  rw [k1] at q2; cases q2
  rw [k3] at q3; cases q3
  exact wpAny_bind (wpAny_pure (wpAny_newObj_type (h c' oc vs t h' tk hx hlt k1 k2 k3 q4 htb.2) (by size_fits)))
end

section
variable {C : Cx} {sc : Scope}
theorem bAt {σ : List Addr} {st : St} {h : Heap} {g : Array GenState} {os : OsState} (I : Inv C σ st h g os) : h.BuiltinsAt C.G.mg C.G.P ∧ mainGlobals ≠ C.G.P := by
  obtain ⟨bm, ob, b1, b2, b3, b4, b5, b6⟩ := I.ok.bmain
  obtain ⟨m, Fm, _⟩ := I.fr
  have hbG : bm ≠ mainGlobals := fun q => by
    obtain ⟨o, es, ep, e, hd, _⟩ := I.ok.g
    rw [q, e] at b3; cases b3; rw [hd] at b6; cases b6
  refine ⟨⟨bm, ob, b1, b2, hbG, (fun q => by rw [q, I.ok.noP] at b3; cases b3), Fm.keep _ _ b3, b4, b5, b6⟩, fun q => ?_⟩
  obtain ⟨o, es, ep, e, hd, _⟩ := I.ok.g
  rw [q, I.ok.noP] at e; cases e

def codeOf (qn : Str) (o : Obj) : Prop := ∃ vs t, o.data = .fields vs ∧ vs[1]? = some (.str qn t)
/-- a lambda made -/
theorem lam_eval {env : Env} {A : Around} {s : Shared} {σ : List Addr} {st : St} {params : Arguments} {body : Expr} {scope : Scope} {pos : Pos} {c : Addr} {Q : Value → Shared → Prop} (hn : EnvAt C sc env) (I : InvS C σ st s) (hT : 1 ≤ s.toks) (hcd : C.cd = .ref c) (hC : ∀ h, C.G.K.In h → CodeHd h c C.G.P)
    (hdef : defaultsOf params env = ([], [])) (hcl : closureFor scope env = pure []) (hq : ∀ (q : Pos) (o : Obj), q.line = pos.line → q.col = pos.col → (C.G.code q o ↔ codeOf (C.qual ++ "<lambda>") o))
    (h : ∀ (f : Addr) (cv pm : Value) (h' : Heap) (tk : Tok), InvS C σ st { s with heap := h', toks := tk } → 1 ≤ tk → h'.get? f = some { cls := .type "function", data := .func (kla_fn "<lambda>" (C.qual ++ "<lambda>") params body scope [] pm cv .none) } → h'.CodeRec cv (C.qual ++ "<lambda>") → Q (.ref f) { s with heap := h', toks := tk }) :
    wpAny (model C.G.prog C.G.w) A (eval (.Lambda params body scope pos) env) Q Bot s := by
  refine kla_eval hdef ?_
  rw [hn.qual]
  obtain ⟨m, Fm, _⟩ := I.fr
  have hg := I.ok.g.keeps Fm.keep
  obtain ⟨hb, hgP⟩ := bAt I
  obtain ⟨ps, hP, ht, hold⟩ := I.tab
  have hCd := hC _ (I.ok.k.keeps Fm.keep)
  refine wpAny_mono (wpAny_toks_of hT (Q := fun v s' => ∃ f cv pm h' tk, v = .ref f ∧ s' = { s with heap := h', toks := tk } ∧ InvS C σ st { s with heap := h', toks := tk } ∧ h'.get? f = some { cls := .type "function", data := .func (kla_fn "<lambda>" (C.qual ++ "<lambda>") params body scope [] pm cv .none) } ∧ h'.CodeRec cv (C.qual ++ "<lambda>")) (E := Bot) ?_) (fun v s' ⟨t', f, cv, pm, h', tk, e1, e2, e3, e4, e5⟩ => by subst e1 e2; exact h f cv pm h' tk e3 t' e4 e5) fun _ _ e => e.2
  cases hz : codeAmong pos ps.toList with
  | none =>
    refine lam_made hcl hn.glob hg (hn.code.trans hcd) hCd hP ht hz hgP hb fun c' oc vs t h' tk hx hlt hoc hcls hd hv hP' => ?_
    have I2 : InvS C σ st { s with heap := h' } := I.retab hx (TabOk.snoc hP ht hold hx hP' hoc (fun q a b => (hq q oc a b).mpr ⟨vs, t, hd, hv⟩) hcls ⟨vs, hd⟩)
    exact ⟨_, _, _, _, _, rfl, rfl, I2.heapPush _, Heap.get?_push_size _ rfl, c', oc, vs, t, rfl, Heap.get?_push_of_some _ hoc, hd, hv⟩
  | some cv =>
    obtain ⟨a, o, rfl, e2, e3, e4, _⟩ := hold pos cv hz
    obtain ⟨vs, t, hd, hv⟩ := (hq pos o rfl rfl).mp e3
    rw [makeFunction_eq]
    simp only [List.zip_nil_right, List.filterMap_nil, List.isEmpty_nil, if_true, pure_bind]
    obtain ⟨bm, ob, hbm, hne0, _, hneP, hbo, hcls, hdict, hdata⟩ := hb
    unfold makeTail
    rw [hcl, hn.glob]
    refine wpAny_bind (wpAny_pure ?_)
    simp only [List.isEmpty_nil, if_true]
    refine wpAny_bind (wpAny_pure ?_)
    refine wpAny_bind (wpAny_functionCode_hit (hn.code.trans hcd) (hCd.code hP ht) hz ?_)
    refine wpAny_bind (wpAny_builtinsFor hg hbm hne0 hbo hcls hdict hdata ?_)
    refine wpAny_bind (wpAny_nsGet hg ?_)
    refine wpAny_bind (wpAny_pure (wpAny_newObj_type ?_ (by size_fits)))
    exact ⟨_, _, _, _, _, rfl, rfl, I.heapPush _, Heap.get?_push_size _ rfl, a, o, vs, t, rfl, Heap.get?_push_of_some _ e2, hd, hv⟩
end
section
variable {C : Cx} {sc : Scope}
theorem EV.methP {y : String} {name : Str} {id : String} {p : Addr} {e : Expr} {r : List Expr} {p1 apos pos : Pos} {pl : Env → Sem Bool} {W : St → (V → St → Prop) → Prop} 
    (hy : sc.names.lookup (Str.ofString y) = some .globalImplicit) (hyd : (Str.ofString y == ("__debug__" : Str)) = false) (hg : C.G.mg (Str.ofString y) = some (.ref p)) (hP : ∀ h, C.G.K.In h → PatAt h p) (slot : Slot "re.Pattern" name id) (hty : typeOf (.builtin id) = pure (.type "method_descriptor"))
    (hc : ∀ (env : Env) (A : Around) (s : Shared) (σ : List Addr) (st : St) (Q : V → St → Prop), EnvAt C sc env → AOk C.d A → InvS C σ st s → 1 ≤ s.toks → W st Q →
      wpAny (model C.G.prog C.G.w) A (spliced (backTo pos (starEach (e :: r) env))) (fun vs s1 => wpAny (model C.G.prog C.G.w) A (call (.builtin id) (.ref p :: vs)) (PV C σ Q) Bot s1) Bot s)
    (he : ∀ env, eval (.Call (.Attribute (.Name (Str.ofString y) p1) name apos) (e :: r) [] pos) env = (do
      let ov ← eval (.Name (Str.ofString y) p1) env
      standAt apos.atName
      let (f, first) ← holding [ov] (getMethod ov name (pl env))
      callWith pos f first (backTo pos (starEach (e :: r) env)) []))
    (hst : ∀ env, starEach (e :: r) env = (false, eval e env) :: starEach r env) (hplain : ∀ env, (backTo pos (starEach r env)).any (·.1) = false) :
    EV C sc (.Call (.Attribute (.Name (Str.ofString y) p1) name apos) (e :: r) [] pos) W := fun env A s σ st Q hn hA I hT h => by
  refine MethodCall_ (name_glob hn I hy hyd hg ?_) (he env)
  obtain ⟨m, Fm, _⟩ := I.fr
  obtain ⟨o, tx, tt, fl, ft, tp, tq, items, n, h1, h2, h3, h4⟩ := (hP _ (I.ok.k.keeps Fm.keep)).ob
  refine getMethod_builtin ⟨_, h1, h2⟩ plainAttrs_pattern slot hty (fun a e => by cases e; exact ⟨_, h1, h3⟩) ?_
  exact callWith_method1 (hc env A s σ st Q hn hA I hT h) (hst env) (hplain env)

def wSub (x : String) : EW := fun st Q => ∃ y, st.loc x = some (.str y) ∧ 2 * y.length ≤ 16777216 ∧ Q (.str (escT y)) st
theorem EV.sub {x y : String} {p c : Addr} {params : Arguments} {body : Expr} {lscope : Scope} {p1 p2 lpos apos pos : Pos} {pl : Env → Sem Bool} (hl : sc.names.lookup (Str.ofString x) = some .local) (hd : (Str.ofString x == ("__debug__" : Str)) = false)
    (hy : sc.names.lookup (Str.ofString y) = some .globalImplicit) (hyd : (Str.ofString y == ("__debug__" : Str)) = false) (hg : C.G.mg (Str.ofString y) = some (.ref p)) (hP : ∀ h, C.G.K.In h → PatAt h p)
    (hcd : C.cd = .ref c) (hC : ∀ h, C.G.K.In h → CodeHd h c C.G.P) (hdef : ∀ env, defaultsOf params env = ([], [])) (hcl : ∀ env, closureFor lscope env = pure []) (hq : ∀ (q : Pos) (o : Obj), q.line = lpos.line → q.col = lpos.col → (C.G.code q o ↔ codeOf (C.qual ++ "<lambda>") o))
    (hD : ∀ cv pm, LamFd (kla_fn "<lambda>" (C.qual ++ "<lambda>") params body lscope [] pm cv .none))
    (he : ∀ env, eval (.Call (.Attribute (.Name (Str.ofString y) p1) "sub" apos) [.Lambda params body lscope lpos, .Name (Str.ofString x) p2] [] pos) env = (do
      let ov ← eval (.Name (Str.ofString y) p1) env
      standAt apos.atName
      let (f, first) ← holding [ov] (getMethod ov "sub" (pl env))
      callWith pos f first (backTo pos (starEach [.Lambda params body lscope lpos, .Name (Str.ofString x) p2] env)) [])) :
    EV C sc (.Call (.Attribute (.Name (Str.ofString y) p1) "sub" apos) [.Lambda params body lscope lpos, .Name (Str.ofString x) p2] [] pos) (wSub x) :=
  EV.methP (W := wSub x) hy hyd hg hP slot_sub type_sub (fun env A s σ st Q hn hA I hT h => by
    obtain ⟨z, hz, hlen, h⟩ := h
    refine wpAny_items_cons (lam_eval hn I hT hcd hC (hdef env) (hcl env) hq fun f cv pm h' tk I2 hT2 hf hrec => ?_) rfl
    refine wpAny_items_cons (wpAny_Name (load_name hn I2 hz hl fun v hv => wpAny_items_nil ?_) hd) rfl
    obtain ⟨t, rfl⟩ := hv
    obtain ⟨m, Fm, _⟩ := I2.fr
    refine sub_call (s := { s with heap := h', toks := tk }) (hP _ (I2.ok.k.keeps Fm.keep)) (hD cv pm) hf rfl rfl hrec (I2.ok.lim.keeps Fm.keep) (by have := hA.2.1; unfold recursionLimit; omega) hlen fun h2 t2 tk2 hk2 => ?_
    exact ⟨σ, .str (escT z), st, Ext.rfl', ⟨_, rfl⟩, I2.keeps hk2, h⟩) he (fun _ => rfl) (fun _ => rfl)
end
open Sem (wp)

/-- what is asked of the element: only where a token has been drawn (the name is bound first) -/
def Elt (prog : Program) (w : World) (cenv : Env) (x : Str) (elt : Expr) (P F : Nat → Value → Prop) : Prop :=
  ∀ (A' : Around) (E' : Value → Shared → Prop) (i : Nat) (v : Value) (s₂ : Shared) (m₂ : Str → Option Value), A'.handled = none → 1 ≤ s₂.toks → P i v → s₂.heap.Ns cenv.locals m₂ → m₂ x = some v → wpAny (model prog w) A' (eval elt cenv) (fun y s₃ => F i y ∧ Keeps s₂ s₃) E' s₂
abbrev always : Nat → Bool := fun _ => true
theorem pass_all (n i : Nat) : (passing always n i).length = n - i := by
  unfold passing
  rw [List.filter_eq_self.mpr (by simp), List.length_drop, List.length_range]

section
variable {prog : Program} {w : World} {A : Around} {elt iter : Expr} {x : Str} {px : Pos} {scope : Scope} {pos : Pos} {I : Addr} {fp wr : List Addr} {n₀ : Nat} {P F : Nat → Value → Prop} {St₀ : Nat → Heap → Prop} {cenv : Env}

theorem turns (hh : A.handled = none) (W₀ : ∀ A' : Around, A'.handled = none → Walks prog w A' I fp wr n₀ P St₀) (hx : cenv.kindOf x = some .local) (hp : (cenv.scope.kind == .class || (cenv.scope.kind == .module && cenv.locals != cenv.globals)) = false)
    (hco : cenv.scope.isCoroutine = false) (hCf : cenv.locals ∉ fp) (hq : Elt prog w cenv x elt P F) : ∀ (k i : Nat) (s₀ s : Shared) (m : Str → Option Value), i + k = n₀ → St₀ i s.heap → s.heap.Ns cenv.locals m → GenSince cenv.locals wr s₀ s →
      Seg (model prog w) A (fun n s₀ r s₁ => r = .ok .next ∧ (n = 0 ∧ GenSince cenv.locals wr s₀ s₁)) (genProto cenv.locals fp wr always n₀ F) (passing always n₀ i).length s₀
        (.compLoop (.GeneratorExp elt [⟨.Name x px, iter, [], 0⟩] scope pos) 0 (.ref I) .none cenv) ((model prog w).den (.compLoop (.GeneratorExp elt [⟨.Name x px, iter, [], 0⟩] scope pos) 0 (.ref I) .none cenv)) [] s := by
  have quiet : (A.over (.compLoop (.GeneratorExp elt [⟨.Name x px, iter, [], 0⟩] scope pos) 0 (.ref I) .none cenv) []).handled = none := hh
  have W := W₀ A hh
  have hC : cenv.locals ∉ wr := fun z => hCf (W.sub _ z)
  have hy : ∀ v, yieldOut cenv v = yieldValue v := fun v => by simp only [yieldOut, hco, Bool.false_eq_true, if_false]
  intro k
  induction k with
  | zero =>
    intro i s₀ s m hi hst hn hsin
    have : i = n₀ := hi
    subst this
    show Seg _ A _ _ _ s₀ _ ((compTurn (.GeneratorExp elt [⟨.Name x px, iter, [], 0⟩] scope pos) 0 (.ref I) .none cenv).onRaise (leaving cenv)) [] s
    rw [compTurn_gen, Sem.onRaise_eq_wrap]
    refine seg_bind_wrap (wpAny_standAt (seg_bind_wrap ((W₀ _ quiet).done s _ _ hst fun h' tk hk => ?_)))
    exact seg_end (.ok .next) ⟨rfl, by rw [pass_all]; omega, hsin.step fun b o _ hb e => hk b o hb e⟩
  | succ k ih =>
    intro i s₀ s m hi hst hn hsin
    have hlt : i < n₀ := by omega
    show Seg _ A _ _ _ s₀ _ ((compTurn (.GeneratorExp elt [⟨.Name x px, iter, [], 0⟩] scope pos) 0 (.ref I) .none cenv).onRaise (leaving cenv)) [] s
    rw [compTurn_gen, Sem.onRaise_eq_wrap]
    refine seg_bind_wrap (wpAny_standAt (seg_bind_wrap ((W₀ _ quiet).item i s _ _ hlt hst fun v h1 k1 hv hst1 hk1 => ?_)))
    refine seg_bind_wrap (wpAny_of_eq (rfl : letOwnedTupleGo (.Name x px) (.ref I) v = pure ()) ?_)
    refine seg_bind_wrap (wpAny_assign_Name (wpAny_storeName_local hx (hn.at' fun o e => hk1 _ o hC e) (fun h2 hn2 hs2 => ?_) hp))
    have keep2 : ∀ b o, b ≠ cenv.locals → b ∉ wr → s.heap.get? b = some o → h2.get? b = some o := fun b o hb hw e => hs2.extBut b o hb (hk1 b o hw e)
    have hst2 : St₀ (i + 1) h2 := W.frame _ _ _ hst1 fun b hb o e => hs2.extBut b o (fun z => hCf (z ▸ hb)) e
    refine seg_bind_wrap (wpAny_pure ?_)
    rw [passing_true hlt rfl, List.length_cons]
    simp only [if_true, hy]
    rw [Sem.bind_eq_wrap', Sem.bind_eq_wrap', Sem.wrap_wrap, Sem.wrap_wrap]
    refine seg_wrap (wpAny_mono (hq _ _ i v { s with heap := h2, toks := k1 + 1 } _ quiet (Nat.le_add_left 1 _) hv hn2 (by simp)) (fun y s4 h4 => ?_) fun _ _ e => e)
    obtain ⟨hF, h4, k4, rfl, hk4⟩ := h4
    refine seg_at (seg_yield rfl rfl rfl ⟨⟨i, passing_here hlt rfl, hF⟩, hsin.step fun b o hb hw e => hk4 b o (keep2 b o hb hw e), fun s5 hal => ?_⟩)
    exact seg_again rfl (ih (i + 1) s5 s5 _ (by omega) (W.frame _ _ _ hst2 fun b hb o e => hal b (List.mem_cons_of_mem _ hb) o (hk4 b o e)) ((hn2.keeps hk4).at' fun o e => hal _ (List.mem_cons_self ..) o e) (GenSince.refl _ _ _))

theorem begun (hh : A.handled = none) (W₀ : ∀ A' : Around, A'.handled = none → Walks prog w A' I fp wr n₀ P St₀) (hx : cenv.kindOf x = some .local) (hp : (cenv.scope.kind == .class || (cenv.scope.kind == .module && cenv.locals != cenv.globals)) = false)
    (hco : cenv.scope.isCoroutine = false) (hCf : cenv.locals ∉ fp) (hq : Elt prog w cenv x elt P F) (s₀ s : Shared) (m : Str → Option Value) (hst : St₀ 0 s.heap) (hn : s.heap.Ns cenv.locals m) (hsin : GenSince cenv.locals wr s₀ s) :
      Seg (model prog w) A (fun n s₀ r s₁ => r = .ok .next ∧ (n = 0 ∧ GenSince cenv.locals wr s₀ s₁)) (genProto cenv.locals fp wr always n₀ F) (passing always n₀ 0).length s₀
        (.compStart (.GeneratorExp elt [⟨.Name x px, iter, [], 0⟩] scope pos) 0 (.ref I) .none cenv) ((model prog w).den (.compStart (.GeneratorExp elt [⟨.Name x px, iter, [], 0⟩] scope pos) 0 (.ref I) .none cenv)) [] s := by
  have quiet : (A.over (.compStart (.GeneratorExp elt [⟨.Name x px, iter, [], 0⟩] scope pos) 0 (.ref I) .none cenv) []).handled = none := hh
  have L := turns (elt := elt) (iter := iter) (px := px) (scope := scope) (pos := pos) hh W₀ hx hp hco hCf hq n₀ 0 s₀ s m (Nat.zero_add _) hst hn hsin
  show Seg _ A _ _ _ s₀ _ ((compStart (.GeneratorExp elt [⟨.Name x px, iter, [], 0⟩] scope pos) 0 (.ref I) .none cenv).onRaise (leaving cenv)) [] s
  unfold compStart
  rw [Sem.onRaise_eq_wrap]
  show Seg _ A _ _ _ s₀ _ ((ask >>= _).wrap _ _ _ _) [] s
  refine seg_bind_wrap (wpAny_askSetting ?_)
  split
  · exact seg_again rfl L
  · refine seg_bind_wrap (wpAny_rule ?_)
    show Seg _ A _ _ _ s₀ _ ((standAt iter.pos >>= _).wrap _ _ _ _) [] s
    exact seg_bind_wrap (wpAny_standAt (seg_bind_wrap ((W₀ _ quiet).self 0 s _ _ hst (seg_again rfl L))))
end
theorem Inv.gens' {C : Cx} {σ : List Addr} {st : St} {h : Heap} {g g' : Array GenState} {os : OsState} (I : Inv C σ st h g os) (hg : AllBare g') : Inv C σ st h g' os :=
  ⟨I.ok, I.fr, I.len, I.nd, I.obj, I.ne, I.own, I.tab, hg, I.eos, I.enb, I.pin, I.cel⟩

section
variable {C : Cx} {sc : Scope}
/-- the code of a generator's block: anew or found -/
theorem gen_code {env : Env} {A : Around} {s : Shared} {σ : List Addr} {st : St} {scope : Scope} {pos : Pos} {c : Addr} {Q : Value → Shared → Prop} (hn : EnvAt C sc env) (I : InvS C σ st s) (hcd : C.cd = .ref c) (hC : ∀ h, C.G.K.In h → CodeHd h c C.G.P)
    (hq : ∀ (q : Pos) (o : Obj), q.line = pos.line → q.col = pos.col → (C.G.code q o ↔ codeOf (C.qual ++ "<genexpr>") o))
    (h : ∀ cv h' tk, InvS C σ st { s with heap := h', toks := tk } → Heap.ExtBut C.G.P s.heap h' → Q cv { s with heap := h', toks := tk }) :
    wpAny (model C.G.prog C.G.w) A (genexprCode env pos (env.qual ++ "<genexpr>") scope) Q Bot s := by
  rw [hn.qual]
  obtain ⟨m, Fm, _⟩ := I.fr
  obtain ⟨ps, hP, ht, hold⟩ := I.tab
  have hCd := hC _ (I.ok.k.keeps Fm.keep)
  cases hz : codeAmong pos ps.toList with
  | none =>
    refine wpAny_genexprCodeX (hn.code.trans hcd) (hCd.code hP ht) (hCd.tab hP) hz fun c' h' tk hx hge hlt _ hrec htb htb2 => ?_
    obtain ⟨P', _, _, ⟨oc, vs, k1, k2, k3, _⟩, _⟩ := htb2
    obtain ⟨c2, oc2, vs2, t, q1, q2, q3, q4⟩ := hrec
    cases q1
    rw [k1] at q2; cases q2
    rw [k3] at q3; cases q3
    exact h _ _ _ (I.retab hx (TabOk.snoc hP ht hold hx htb.2 k1 (fun q a b => (hq q oc a b).mpr ⟨vs, t, k3, q4⟩) k2 ⟨vs, k3⟩)) hx
  | some cv =>
    exact wpAny_genexprCode_hit (hn.code.trans hcd) (hCd.code hP ht) hz (h cv s.heap s.toks I fun b o _ e => e)

theorem EV.methX {o e : Expr} {name : Str} {id : String} {r : List Expr} {apos pos : Pos} {pl : Env → Sem Bool} {a : EW} {W : List Nat → St → (V → St → Prop) → Prop} (ho : EV C sc o a) (slot : Slot "str" name id) (hty : typeOf (.builtin id) = pure (.type "method_descriptor"))
    (hc : ∀ (env : Env) (A : Around) (s : Shared) (σ : List Addr) (st : St) (x : List Nat) (t : Tok) (Q : V → St → Prop), EnvAt C sc env → AOk C.d A → InvS C σ st s → 1 ≤ s.toks → W x st Q →
      wpAny (model C.G.prog C.G.w) A (spliced (backTo pos (starEach (e :: r) env))) (fun vs s1 => wpAny (model C.G.prog C.G.w) A (call (.builtin id) (.str ⟨x.toArray⟩ t :: vs)) (PV C σ Q) Bot s1) Bot s)
    (he : ∀ env, eval (.Call (.Attribute o name apos) (e :: r) [] pos) env = (do
      let ov ← eval o env
      standAt apos.atName
      let (f, first) ← holding [ov] (getMethod ov name (pl env))
      callWith pos f first (backTo pos (starEach (e :: r) env)) []))
    (hst : ∀ env, starEach (e :: r) env = (false, eval e env) :: starEach r env) (hplain : ∀ env, (backTo pos (starEach r env)).any (·.1) = false) :
    EV C sc (.Call (.Attribute o name apos) (e :: r) [] pos) (fun st Q => a st fun X st1 => ∃ x, X = .str x ∧ W x st1 Q) := fun env A s σ st Q hn hA I hT h => by
  refine MethodCall_ (tmono hT (ho env A s σ st _ hn hA I hT h) (fun v s1 t1 h1 => ?_) fun _ _ e => e) (he env)
  obtain ⟨σ1, X, st1, e1, hX, I1, x, rfl, h1⟩ := h1
  obtain ⟨t, rfl⟩ := hX
  refine getMethod_builtin (typeIs_str _ _ t) PySem.F.plainAttrs_str slot hty (fun a e => by cases e) ?_
  refine callWith_method1 (wpAny_mono (hc env A s1 σ1 st1 x t Q hn hA I1 t1 h1) (fun vs s2 h2 => wpAny_mono h2 (fun v s3 ⟨σ3, X, st3, e3, r⟩ => ⟨σ3, X, st3, e1.trans e3, r⟩) fun _ _ e => e) fun _ _ e => e) (hst env) (hplain env)

def EltFn (prog : Program) (w : World) (scope : Scope) (x : Str) (elt : Expr) (f : List Nat → List Nat) (ok : List Nat → Prop) : Prop :=
  ∀ (cenv : Env) (A : Around) (E : Value → Shared → Prop) (s : Shared) (m : Str → Option Value) (y : List Nat) (t : Tok) (Q : Value → Shared → Prop), cenv.scope = scope → 1 ≤ s.toks → ok y → s.heap.Ns cenv.locals m → m x = some (.str ⟨y.toArray⟩ t) → (∀ t' k, Q (.str ⟨(f y).toArray⟩ t') { s with toks := k }) → wpAny (model prog w) A (eval elt cenv) Q E s
theorem texts_at {σ : List Addr} {xs : List V} {ts : List (List Nat)} {vs : List Value} (h : texts xs = some ts) (hv : VRs σ xs vs) : vs.length = ts.length ∧ ∀ (i : Nat) (v : Value), vs[i]? = some v → ∃ u, v = .str ⟨(ts.getD i []).toArray⟩ u ∧ i < ts.length := by
  obtain ⟨l, h1, h2⟩ := texts_vals h hv
  have hlen : l.length = ts.length := by have := congrArg List.length h2; simpa using this
  refine ⟨by rw [← h1]; simpa [strValues] using hlen, fun i v hi => ?_⟩
  rw [← h1] at hi
  unfold strValues at hi
  rw [List.getElem?_map] at hi
  cases hp : l[i]? with
  | none => rw [hp] at hi; cases hi
  | some p =>
    rw [hp] at hi
    have hil : i < l.length := (List.getElem?_eq_some_iff.mp hp).1
    have h3 : (l.map (·.1))[i]? = (ts.map fun x => (⟨x.toArray⟩ : Str))[i]? := by rw [h2]
    rw [List.getElem?_map, List.getElem?_map, hp, List.getElem?_eq_getElem (by omega)] at h3
    simp at h3
    simp at hi
    refine ⟨p.2, ?_, by omega⟩
    rw [← hi, h3, List.getD_eq_getElem?_getD, List.getElem?_eq_getElem (by omega)]; rfl
def jGen (x : String) (f : List Nat → List Nat) (ok : List Nat → Prop) (sep : List Nat) : St → (V → St → Prop) → Prop := fun st Q => ∃ k xs ts, st.loc x = some (.ref k) ∧ st.sto[k]? = some (.list xs) ∧ texts xs = some ts ∧ (∀ t ∈ ts, ok t) ∧ ts.length ≤ 16777216 ∧ lsum (ts.map f) + ts.length * sep.length ≤ 16777216 ∧ Q (.str (joins sep (ts.map f))) st
theorem join_gen_args {y x : String} {f : List Nat → List Nat} {ok : List Nat → Prop} {elt : Expr} {scope : Scope} {p1 px gpos pos : Pos} {c : Addr} (hl : sc.names.lookup (Str.ofString y) = some .local) (hd : (Str.ofString y == ("__debug__" : Str)) = false)
    (hcd : C.cd = .ref c) (hC : ∀ h, C.G.K.In h → CodeHd h c C.G.P) (hq : ∀ (q : Pos) (o : Obj), q.line = gpos.line → q.col = gpos.col → (C.G.code q o ↔ codeOf (C.qual ++ "<genexpr>") o))
    (hco : scope.isCoroutine = false) (hclos : ∀ env, closureFor scope env = pure []) (hcell : ∀ y ∈ scope.names, y.2 ≠ .cell) (h0 : scope.names.lookup (".0" : Str) = some NameKind.local) (hx : scope.names.lookup (Str.ofString x) = some .local) (hkind : scope.kind = .function)
    (helt : EltFn C.G.prog C.G.w scope (Str.ofString x) elt f ok) (env : Env) (A : Around) (s : Shared) (σ : List Addr) (st : St) (sep : List Nat) (t : Tok) (Q : V → St → Prop) (hn : EnvAt C sc env) (hA : AOk C.d A) (I : InvS C σ st s) (h : jGen y f ok sep st Q) :
    wpAny (model C.G.prog C.G.w) A (spliced (backTo pos (starEach [.GeneratorExp elt [⟨.Name (Str.ofString x) px, .Name (Str.ofString y) p1, [], 0⟩] scope gpos] env))) (fun vs s1 => wpAny (model C.G.prog C.G.w) A (call (.builtin "str.join") (.str ⟨sep.toArray⟩ t :: vs)) (PV C σ Q) Bot s1) Bot s := by
  obtain ⟨k, xs, ts, hk, hxs, hts, hok, hlen, hsum, h⟩ := h
  have hst : starEach [.GeneratorExp elt [⟨.Name (Str.ofString x) px, .Name (Str.ofString y) p1, [], 0⟩] scope gpos] env = (false, eval (.GeneratorExp elt [⟨.Name (Str.ofString x) px, .Name (Str.ofString y) p1, [], 0⟩] scope gpos) env) :: starEach [] env := rfl
  refine wpAny_items_cons (wpAny_GeneratorExp_make (cl := []) hco (hclos env) hcell h0 hkind (by have := hA.2.1; unfold recursionLimit; omega) ?_ (fun x => rfl)) hst
  refine wpAny_Name (load_name hn I hk hl fun v hv => ?_) hd
  obtain ⟨l, hl', rfl⟩ := hv
  obtain ⟨a', ob, f1, f2, vs, n, rfl, hvs⟩ := I.obj _ _ hxs
  rw [hl'] at f1; cases f1
  refine wpAny_pyIter_list ⟨_, f2, rfl, n, rfl⟩ ?_
  obtain ⟨Ia, hIa⟩ : ∃ q, q = s.heap.objs.size := ⟨_, rfl⟩
  have hfI : Fresh C σ Ia := I.fresh (Nat.le_of_eq hIa.symm)
  have I1 := I.heapPush { cls := .type "list_iterator", data := .fields #[.ref l, .int 0 0] }
  have hlI : l ≠ Ia := by rw [hIa]; exact Nat.ne_of_lt (Heap.lt_size f2)
  obtain ⟨m1, Fm1, _⟩ := I1.fr
  refine ⟨I1.ok.lim.keeps Fm1.keep, ?_⟩
  have hoI : (s.heap.push { cls := .type "list_iterator", data := .fields #[.ref l, .int 0 0] }).get? Ia = some { cls := .type "list_iterator", data := .fields #[.ref l, .int 0 0] } := by rw [hIa]; exact Heap.get?_push_size _ rfl
  refine gen_code (s := { s with heap := s.heap.push { cls := .type "list_iterator", data := .fields #[.ref l, .int 0 0] } }) hn I1 hcd hC hq fun cv h3 tk3 I3 hx3 => ?_
  obtain ⟨hb, hgP⟩ := bAt I3
  obtain ⟨bm, obm, hbm, hne0, _, hneP, hbo, hcls, hdict, hdata⟩ := hb
  obtain ⟨m3, Fm3, _⟩ := I3.fr
  refine wpAny_builtinsFor (s := { s with heap := h3, toks := tk3 }) (by rw [hn.glob]; exact I3.ok.g.keeps Fm3.keep) hbm hne0 hbo hcls hdict hdata ?_
  rw [← hIa]
  intro h4 hns4 hsb4
  have hh := hA.1
  have hroom : A.depth < recursionLimit := by have := hA.2.1; unfold recursionLimit; omega
  have hsz : h4.objs.size = h3.objs.size + 1 := by rw [hsb4.1, Heap.size_push]
  have keep4 : ∀ b o, h3.get? b = some o → h4.get? b = some o := fun b o e => hsb4.extBut b o (Nat.ne_of_lt (Heap.lt_size e)) (Heap.get?_push_of_some _ e)
  have hIP : Ia ≠ C.G.P := hfI.2.2.1
  have hlP : l ≠ C.G.P := (I.ne l (List.mem_of_getElem? hl')).2
  have hI3 : h3.get? Ia = some { cls := .type "list_iterator", data := .fields #[.ref l, .int 0 0] } := hx3 _ _ hIP hoI
  have hl3 : h3.get? l = some { cls := .type "list", data := .seq vs.toArray n } := hx3 _ _ hlP (Heap.get?_push_of_some _ f2)
  have hlim3 := I3.ok.lim.keeps Fm3.keep
  have hclt : cStatics < h3.objs.size := let ⟨_, q, _⟩ := hlim3; q.lt
  have hcI : cStatics ≠ Ia := fun q => by
    obtain ⟨_, ⟨o, es, ep, e1, e2, _⟩, _⟩ := hlim3
    rw [q, hI3] at e1; cases e1; cases e2
  have hIlt : Ia < h3.objs.size := Heap.lt_size hI3
  have hllt : l < h3.objs.size := Heap.lt_size hl3
  obtain ⟨hvl, hat⟩ := texts_at hts hvs
  have W₀ : ∀ A' : Around, A'.handled = none → Walks C.G.prog C.G.w A' Ia (List.range h3.objs.size) [Ia] vs.toArray.size (fun i v => vs.toArray[i]? = some v) (fun i h => h.IsListIter Ia l i ∧ h.IsList l vs.toArray) := fun A' hA' =>
    (Walks.list hA' Ia l hlI vs.toArray).mono_fp fun b hb => List.mem_range.mpr (by
      rcases List.mem_cons.mp hb with rfl | hb
      · exact hIlt
      · rcases List.mem_cons.mp hb with rfl | hb
        · exact hllt
        · cases hb)
  have hsub : ∀ b ∈ ([Ia] : List Addr), b ∈ List.range h3.objs.size := fun b hb => by
    rcases List.mem_cons.mp hb with rfl | hb
    · exact List.mem_range.mpr hIlt
    · cases hb
  have haC : h4.objs.size ≠ h3.objs.size := by rw [hsz]; exact Nat.succ_ne_self _
  have haf : h4.objs.size ∉ List.range h3.objs.size := fun z => by have := List.mem_range.mp z; omega
  obtain ⟨go, hgo⟩ : ∃ q : Obj, q = { cls := .type "generator", data := .fields #[.int s.gens.size 0, .str "<genexpr>" (tk3 + 1), .str (env.qual ++ "<genexpr>") (tk3 + 1 + 1)] } := ⟨_, rfl⟩
  have keep5 : ∀ b o, h3.get? b = some o → (h4.push go).get? b = some o := fun b o e => Heap.get?_push_of_some _ (keep4 b o e)
  obtain ⟨F, hF⟩ : ∃ q : Nat → Value → Prop, q = fun i y => ∃ u, y = .str ⟨(f (ts.getD i [])).toArray⟩ u := ⟨_, rfl⟩
  have W : WalksS C.G.prog C.G.w A.in4 h4.objs.size (h4.objs.size :: h3.objs.size :: List.range h3.objs.size) (h3.objs.size :: [Ia]) (GenOnlyQ s.gens.size) (passing always vs.toArray.size 0).length (fun j y => ∃ i, (passing always vs.toArray.size 0)[j]? = some i ∧ F i y) (GenAt C.G.prog C.G.w A.in4 h4.objs.size s.gens.size h3.objs.size (List.range h3.objs.size) [Ia] always vs.toArray.size F) :=
    WalksS.genexpQ (A := A.in4) hh _ _ _ _ [Ia] always _ F haC haf hsub hroom (List.mem_range.mpr hclt) (Nat.ne_of_lt hclt) (by simp; exact hcI)
  have hElt : Elt C.G.prog C.G.w (genEnv scope [] h3.objs.size cv builtinsNs env) (Str.ofString x) elt (fun i v => vs.toArray[i]? = some v) F := by
    intro A' E' i v s2 m2 hA' hT2 hP hns2 hm2
    obtain ⟨u, rfl, hi⟩ := hat i v (by simpa using hP)
    refine helt _ A' E' s2 m2 (ts.getD i []) u _ rfl hT2 (hok _ ?_) hns2 hm2 fun t' k' => ⟨by rw [hF]; exact ⟨t', rfl⟩, s2.heap, k', rfl, fun _ _ e => e⟩
    rw [List.getD_eq_getElem?_getD, List.getElem?_eq_getElem hi]
    exact List.getElem_mem hi
  refine wpAny_items_nil ?_
  rw [← hgo]
  have hG0 : GenAt C.G.prog C.G.w A.in4 h4.objs.size s.gens.size h3.objs.size (List.range h3.objs.size) [Ia] always vs.toArray.size F 0 { s with heap := h4.push go, gens := s.gens.push (.fresh (.compStart (.GeneratorExp elt [⟨.Name (Str.ofString x) px, .Name (Str.ofString y) p1, [], 0⟩] scope gpos) 0 (.ref Ia) .none (genEnv scope [] h3.objs.size cv builtinsNs env))), toks := tk3 + 1 + 1 + 1 } := by
    refine ⟨⟨_, _, _, Heap.get?_push_size _ (by rw [hgo]; rfl), by rw [hgo], by rw [hgo], by rw [hgo]⟩, hlim3.keeps keep5, _, Array.getElem?_push_size .., fun s'' hal => ⟨rfl, ?_⟩⟩
    refine begun (A := A.in4.in1) (cenv := genEnv scope [] h3.objs.size cv builtinsNs env) (x := Str.ofString x) hh (fun A' hA' => W₀ A' hA') hx (by simp [genEnv, hkind]) hco (fun z => Nat.lt_irrefl _ (List.mem_range.mp z)) hElt s'' s'' (fun y => if y = ".0" then some (.ref Ia) else none) ?_ ?_ (GenSince.refl _ _ _)
    · refine ⟨⟨_, hal _ (List.mem_cons_of_mem _ (List.mem_range.mpr hIlt)) _ (keep5 _ _ hI3), rfl, rfl⟩, ⟨_, hal _ (List.mem_cons_of_mem _ (List.mem_range.mpr hllt)) _ (keep5 _ _ hl3), rfl, n, rfl⟩⟩
    · exact (hns4.push _).at' fun o e => hal _ (List.mem_cons_self ..) o e
  refine SC.joinGen W.in4_2 (fun i s' st => st.1.typeIs) hG0 (fun b hb => ?_) (List.mem_cons_self ..) (fun j v hv => ?_) (fun s' lt hm hacc => ?_) ?_
  · show b < (h4.push go).objs.size
    rw [Heap.size_push]
    rcases List.mem_cons.mp hb with rfl | hb
    · exact Nat.lt_succ_self _
    · rcases List.mem_cons.mp hb with rfl | hb
      · rw [hsz]; exact Nat.lt_succ_of_lt (Nat.lt_succ_self _)
      · have := List.mem_range.mp hb; rw [hsz]; exact Nat.lt_succ_of_lt (Nat.lt_succ_of_lt this)
  · obtain ⟨i, _, hv⟩ := hv
    rw [hF] at hv
    obtain ⟨u, rfl⟩ := hv
    exact ⟨_, u, rfl⟩
  · have hn0 : vs.toArray.size = ts.length := by simp [hvl]
    have hl : lt.map (·.1) = (ts.map f).map fun x => (⟨x.toArray⟩ : Str) := by
      apply List.ext_getElem?
      intro j
      have hls : lt.length = ts.length := by
        have := hacc.1
        rw [pass_all, hn0] at this
        simpa [strValues] using this
      by_cases hj : j < ts.length
      · have hj' : j < lt.length := by omega
        obtain ⟨i, hi, hv⟩ := hacc.2 j (.str lt[j].1 lt[j].2) (by simp [strValues, List.getElem?_eq_getElem hj'])
        rw [hF] at hv
        obtain ⟨u, hv⟩ := hv
        injection hv with h1 _
        have hij : i = j := by
          have e : passing always vs.toArray.size 0 = List.range vs.toArray.size := by unfold passing; rw [List.filter_eq_self.mpr (by simp)]; rfl
          rw [e, List.getElem?_range (by rw [hn0]; exact hj)] at hi
          exact (Option.some.inj hi).symm
        subst hij
        rw [List.getD_eq_getElem?_getD, List.getElem?_eq_getElem hj] at h1
        simp [List.getElem?_eq_getElem hj', hj, h1]
      · rw [List.getElem?_eq_none (by simp; omega), List.getElem?_eq_none (by simp; omega)]
    rw [hl]
    refine ⟨joinOk_of sep (ts.map f) (by rw [List.length_map]; exact hsum), fun t' k' => ?_⟩
    have e4 : Txt.join ⟨sep.toArray⟩ ((ts.map f).map fun y => (⟨y.toArray⟩ : Str)) = ⟨(joins sep (ts.map f)).toArray⟩ := by unfold Txt.join; rw [StrLaws.glued_eq_join, join_is]
    rw [e4]
    have hxf : Heap.ExtBut Ia h3 s'.heap := fun b o hb e => hm.heap b o (by
      intro z
      rcases List.mem_cons.mp z with z | z
      · have := Heap.lt_size e; rw [z] at this; exact Nat.lt_irrefl _ this
      · rcases List.mem_cons.mp z with z | z
        · exact hb z
        · cases z) (keep5 b o e)
    have hg' : AllBare s'.gens := AllBare.movedS (I.gens.push rfl) hm
    have If : InvS C σ st { s' with toks := k' } := by
      have := (I3.gens' hg').apart hxf hfI.1 hfI.2.1 hfI.2.2.1 hfI.2.2.2.1 hfI.2.2.2.2 hI3 (.inl (by simp))
      have ho : s'.os = s.os := hm.os
      show Inv C σ st s'.heap s'.gens s'.os
      rw [ho]; exact this
    exact ⟨σ, .str (joins sep (ts.map f)), st, Ext.rfl', ⟨t', rfl⟩, If, h⟩
  · rw [pass_all, sizeLine_val]; simp [hvl]; exact hlen
end
section
variable {prog : Program} {w : World}
/-- one replace, the receiver's walk given -/
theorem repl_at {o : Expr} {name : Str} {y z : String} {c k1 k2 : Nat} {p1 p2 apos pos : Pos} {pl : Sem Bool} {cenv : Env} {A : Around} {s : Shared} {Q : Value → Shared → Prop} (hy : Str.ofString y = ⟨#[c]⟩) (hyz : (Str.ofString y == Str.ofString z) = false) (slot : Slot "str" name "str.replace")
    (ho : wpAny (model prog w) A (eval o cenv) (fun v s1 => 1 ≤ s1.toks ∧ ∃ x t, v = .str ⟨List.toArray x⟩ t ∧ x.length + (x.length + 1) * (sl z).length ≤ 16777216 ∧ ∀ t' k, Q (.str ⟨(repl1 c (sl z) x).toArray⟩ t') { s1 with toks := k }) Bot s)
    (he : eval (.Call (.Attribute o name apos) [.Constant (.str (Str.ofString y)) k1 p1, .Constant (.str (Str.ofString z)) k2 p2] [] pos) cenv = (do
      let ov ← eval o cenv
      standAt apos.atName
      let (f, first) ← holding [ov] (getMethod ov name pl)
      callWith pos f first (backTo pos (starEach [.Constant (.str (Str.ofString y)) k1 p1, .Constant (.str (Str.ofString z)) k2 p2] cenv)) [])) :
    wpAny (model prog w) A (eval (.Call (.Attribute o name apos) [.Constant (.str (Str.ofString y)) k1 p1, .Constant (.str (Str.ofString z)) k2 p2] [] pos) cenv) Q Bot s := by
  refine MethodCall_ (wpAny_mono ho (fun v s1 h1 => ?_) fun _ _ e => e) he
  obtain ⟨hT, x, t, rfl, hb, hq⟩ := h1
  refine getMethod_builtin (typeIs_str _ _ t) PySem.F.plainAttrs_str slot PySem.F.type_str_replace (fun a e => by cases e) ?_
  refine callWith_method1 (wpAny_items_cons (wpAny_Constant_str (wpAny_items_cons (wpAny_Constant_str (wpAny_items_nil ?_)) rfl)) rfl) rfl rfl
  have hz : (Str.ofString z) = ⟨(sl z).toArray⟩ := by simp [sl]
  refine SC.replace (by show s1.toks ≠ 0; omega) (by show s1.toks + 1 ≠ 0; omega) (by show s1.toks ≠ s1.toks + 1; omega) hyz ?_ fun t' k => ?_
  · rw [str_len, hz, str_len]; exact hb
  · rw [hy, hz, replace_is]; exact hq t' k
theorem elt_replace {x : String} {y1 z1 y2 z2 : String} {c1 c2 k1 k2 k3 k4 : Nat} {p0 p1 p2 p3 p4 a1 a2 q1 q2 : Pos} {scope : Scope} {pl1 pl2 : Env → Sem Bool} (h1 : Str.ofString y1 = ⟨#[c1]⟩) (g1 : (Str.ofString y1 == Str.ofString z1) = false) (h2 : Str.ofString y2 = ⟨#[c2]⟩) (g2 : (Str.ofString y2 == Str.ofString z2) = false)
    (hk : scope.kind = .function) (hl : scope.names.lookup (Str.ofString x) = some .local) (hd : (Str.ofString x == ("__debug__" : Str)) = false) (l1 : (sl z1).length ≤ 10) (l2 : (sl z2).length ≤ 10)
    (e1 : ∀ cenv, eval (.Call (.Attribute (.Name (Str.ofString x) p0) "replace" a1) [.Constant (.str (Str.ofString y1)) k1 p1, .Constant (.str (Str.ofString z1)) k2 p2] [] q1) cenv = (do
      let ov ← eval (.Name (Str.ofString x) p0) cenv
      standAt a1.atName
      let (f, first) ← holding [ov] (getMethod ov "replace" (pl1 cenv))
      callWith q1 f first (backTo q1 (starEach [.Constant (.str (Str.ofString y1)) k1 p1, .Constant (.str (Str.ofString z1)) k2 p2] cenv)) []))
    (e2 : ∀ cenv, eval (.Call (.Attribute (.Call (.Attribute (.Name (Str.ofString x) p0) "replace" a1) [.Constant (.str (Str.ofString y1)) k1 p1, .Constant (.str (Str.ofString z1)) k2 p2] [] q1) "replace" a2) [.Constant (.str (Str.ofString y2)) k3 p3, .Constant (.str (Str.ofString z2)) k4 p4] [] q2) cenv = (do
      let ov ← eval (.Call (.Attribute (.Name (Str.ofString x) p0) "replace" a1) [.Constant (.str (Str.ofString y1)) k1 p1, .Constant (.str (Str.ofString z1)) k2 p2] [] q1) cenv
      standAt a2.atName
      let (f, first) ← holding [ov] (getMethod ov "replace" (pl2 cenv))
      callWith q2 f first (backTo q2 (starEach [.Constant (.str (Str.ofString y2)) k3 p3, .Constant (.str (Str.ofString z2)) k4 p4] cenv)) [])) :
    EltFn prog w scope (Str.ofString x) (.Call (.Attribute (.Call (.Attribute (.Name (Str.ofString x) p0) "replace" a1) [.Constant (.str (Str.ofString y1)) k1 p1, .Constant (.str (Str.ofString z1)) k2 p2] [] q1) "replace" a2) [.Constant (.str (Str.ofString y2)) k3 p3, .Constant (.str (Str.ofString z2)) k4 p4] [] q2)
      (fun t => repl1 c2 (sl z2) (repl1 c1 (sl z1) t)) (fun t => t.length ≤ 1000) := by
  intro cenv A E s m t tt Q hsc hT hok hns hm hQ
  have hlen : ∀ (c : Nat) (z x : List Nat), z.length ≤ 10 → (repl1 c z x).length ≤ 10 * x.length + x.length := by
    intro c z x hz
    induction x with
    | nil => simp [repl1]
    | cons a r ih =>
      unfold repl1 at ih ⊢
      rw [List.flatMap_cons, List.length_append, List.length_cons]
      split
      · omega
      · rw [List.length_singleton]; omega
  refine falso (repl_at h2 g2 PySem.F.slot_str_replace (wpAny_mono (wpAny_toks_of hT (repl_at (Q := fun v s1 => ∃ t' k, v = .str ⟨(repl1 c1 (sl z1) t).toArray⟩ t' ∧ s1 = { s with toks := k }) h1 g1 PySem.F.slot_str_replace (wpAny_Name (wpAny_loadName_local (by rw [hsc]; exact hk) (by unfold Env.kindOf; rw [hsc]; exact hl) hns hm ?_) hd) (e1 cenv))) (fun v s1 hh => ?_) fun _ _ e => e.2) (e2 cenv))
  · refine ⟨hT, t, tt, rfl, ?_, fun t' k => ⟨t', k, rfl, rfl⟩⟩
    have : (t.length + 1) * (sl z1).length ≤ (t.length + 1) * 10 := Nat.mul_le_mul_left _ l1
    omega
  · obtain ⟨hT1, t', k, rfl, rfl⟩ := hh
    refine ⟨hT1, _, t', rfl, ?_, fun t2 k2 => hQ t2 k2⟩
    have h3 := hlen c1 (sl z1) t l1
    have : ((repl1 c1 (sl z1) t).length + 1) * (sl z2).length ≤ ((repl1 c1 (sl z1) t).length + 1) * 10 := Nat.mul_le_mul_left _ l2
    omega
end
theorem Inv.cells' {C : Cx} {σ : List Addr} {st : St} {h : Heap} {g : Array GenState} {os : OsState} (I : Inv C σ st h g os) (cl : List (Str × Addr)) (ci : String → Option Nat) (hc : ∀ (x : String) (k : Nat), ci x = some k → ∃ a : Addr, σ[k]? = some a ∧ cl.lookup (Str.ofString x) = some a) :
    Inv { C with cl := cl, ci := ci } σ st h g os :=
  ⟨⟨I.ok.g, I.ok.b, I.ok.lim, I.ok.k, I.ok.boot, I.ok.bmain, I.ok.noP, I.ok.PL⟩, I.fr, I.len, I.nd, I.obj, I.ne, I.own, I.tab, I.gens, I.eos, I.enb, I.pin, hc⟩

def wFnC (p : String) (body : SW) : CW := fun Xs st Q => ∃ X, Xs = [X] ∧ body ⟨fun y => if y = p then some X else none, st.sto ++ [.cell none], st.sto.length⟩ fun fl st' => Q (match fl with | .ret X => X | _ => .none) ⟨st.loc, st'.sto, st.nb⟩
section
variable {C : Cx}
theorem CallOk.defC {f : Addr} {fd : FuncData} {p star : String} {body : List Stmt} {sc' : Scope} {d' : Nat} {B : SW} (D : DefAt C f fd [p] body sc') (hd : d' < C.d) (hcs : ∀ n, cellsFrom n sc'.names [] = [(Str.ofString star, n)])
    (hb : ∀ (C' : Cx) (k : Nat), C'.G = C.G → C'.d = d' → C'.cd = fd.code → C'.qual = fd.qualname ++ ".<locals>." → C'.nb = k → C'.ci = (fun x => if x = star then some k else none) → (∃ a, C'.cl = [(Str.ofString star, a)]) → EX C' sc' body B) : CallOk C (.ref f) (wFnC p B) := fun A s σ st Xs vs Q hA I hT hv h => by
  obtain ⟨X, rfl, h⟩ := h
  obtain ⟨o, ho, hfd⟩ := D.ob
  obtain ⟨m, Fm, _⟩ := I.fr
  have K := I.ok.k.keeps Fm.keep
  have hsc := D.esc
  obtain ⟨v, r, rfl, hX, rfl⟩ := hv
  have hbd := D.binds [v] rfl
  have hz : ([p].map Str.ofString).zip [v] = [(Str.ofString p, v)] := rfl
  rw [hz] at hbd
  have hcs2 := hcs (s.heap.objs.size + 1)
  have hroom : A.depth < recursionLimit := by have := hA.2.1; unfold recursionLimit; omega
  have hcd : s.heap.CodeRec fd.code fd.qualname := by
    obtain ⟨c, oc, ws, t, e1, e2, e3, e4⟩ := D.code
    exact ⟨c, oc, ws, t, e1, K _ _ e2, e3, e4⟩
  have hk : fd.scope.kind = .function := by rw [hsc]; exact D.kind
  have hloc : fd.scope.names.lookup (Str.ofString p) = some .local := by rw [hsc]; exact D.loc p (List.mem_cons_self ..)
  refine wpAny_call (codeAny_call_function hroom (K _ _ ho) hfd (by rw [hsc]; exact D.coro) (by rw [hsc]; exact D.gen) D.body hcd ?_)
  rw [hbd, D.clo]
  refine wpAny_pure (falso (tmono hT (wpAny_newFunctionEnv_cells (E := Bot) (binds := [(Str.ofString p, v)]) (Q := fun env s' => env = callEnvC fd s.heap.objs.size f ∧ InCallC s env.locals (bindL env.kindOf [(Str.ofString p, v)] fun _ => none) env.cells (bindC env.kindOf [(Str.ofString p, v)] fun _ => none) s') hk (fun x hx => by simp at hx; rw [hx]; exact .inl hloc) fun env he s' x => ⟨he, x⟩) (fun env s₁ t₁ hx => ?_) fun _ _ e => e))
  obtain ⟨rfl, x⟩ := hx
  refine ⟨(I.ok.lim.keeps Fm.keep).keeps x.toInCall.keep, codeAny_func ?_⟩
  have hcells : (callEnvC fd s.heap.objs.size f).cells = [(Str.ofString star, s.heap.objs.size + 1)] := by
    show cellsFrom (s.heap.objs.size + 1) fd.scope.names [] = _
    rw [hsc]; exact hcs2
  have hkp : (callEnvC fd s.heap.objs.size f).kindOf (Str.ofString p) = some .local := hloc
  have hns : s₁.heap.Ns s.heap.objs.size (fun y => if y = Str.ofString p then some v else none) := by
    have := x.toInCall.ns
    simp only [bindL, hkp, if_true] at this
    exact this
  have hcell := x.cell (Str.ofString star) (s.heap.objs.size + 1) (by rw [hcells]; simp)
  have hbc : bindC (callEnvC fd s.heap.objs.size f).kindOf [(Str.ofString p, v)] (fun _ => none) (Str.ofString star) = none := by simp only [bindC, hkp, if_true]
  rw [hbc] at hcell
  obtain ⟨h₁, tk₁, rfl⟩ := x.toInCall.same
  have hkeep := x.toInCall.keep
  have J := I.enter (d := d') (cd := fd.code) (q := fd.qualname ++ ".<locals>.") hns hkeep (loc := fun y => if y = p then some X else none) (LocR.set (loc := fun _ => none) (fun _ _ e => nomatch e) hX)
  obtain ⟨oc, hoc, hdc⟩ := hcell
  have hnew : s.heap.get? (s.heap.objs.size + 1) = none := Heap.get?_none_of_le (by omega)
  have J2 := J.adopt (a := s.heap.objs.size + 1) (o := .cell none) (fun q => absurd (I.mem_lt q) (Nat.not_lt.mpr (Nat.le_succ _))) (Nat.succ_ne_self _) (by
      have hPs : @LT.lt Nat _ C.G.P s.heap.objs.size := Nat.lt_trans I.P_lt Fm.ns.lt
      exact Nat.ne_of_gt (Nat.lt_succ_of_lt hPs)) (by
      show (hideAll s.heap [C.G.P]).get? (s.heap.objs.size + 1) = none
      exact Heap.get?_none_of_le (by rw [hideAll_size]; omega)) (fun p hp => nomatch hp) hoc hdc
  have J3 := J2.cells' [(Str.ofString star, s.heap.objs.size + 1)] (fun y => if y = star then some st.sto.length else none) (fun y k hy => by
    by_cases hys : y = star
    · subst hys
      simp only [if_true] at hy
      cases hy
      exact ⟨s.heap.objs.size + 1, by rw [← I.len]; simp, by simp⟩
    · simp only [if_neg hys] at hy; cases hy)
  have hE : EnvAt { (C.sub s.heap st.sto.length d' fd.code (fd.qualname ++ ".<locals>.")) with cl := [(Str.ofString star, s.heap.objs.size + 1)], ci := fun y => if y = star then some st.sto.length else none } sc' (callEnvC fd s.heap.objs.size f) :=
    ⟨hsc, rfl, D.glob, D.blt, D.kind, rfl, rfl, hcells⟩
  have key := hb { (C.sub s.heap st.sto.length d' fd.code (fd.qualname ++ ".<locals>.")) with cl := [(Str.ofString star, s.heap.objs.size + 1)], ci := fun y => if y = star then some st.sto.length else none } st.sto.length rfl rfl rfl rfl rfl rfl ⟨_, rfl⟩
    (callEnvC fd s.heap.objs.size f) (A.deeper (callEnvC fd s.heap.objs.size f)) { s with heap := h₁, toks := tk₁ } (σ ++ [s.heap.objs.size + 1]) _ _ hE (hA.deeper hd) J3 t₁ h
  refine falso (wpAny_mono key (fun fl s' hp => ?_) fun _ _ e => e)
  obtain ⟨σ', FL, st', e', hF, J', hq⟩ := hp
  have eσ : Ext σ σ' := (Ext.app _ _).trans e'
  have J4 := J'.cells' [] (fun _ => none) (fun x k e => nomatch e)
  have I' := I.leave (d := d') (cd := fd.code) (qu := fd.qualname ++ ".<locals>.") J4 eσ
  cases FL with
  | next => cases hF; exact ⟨σ', .none, _, eσ, rfl, I', hq⟩
  | brk => cases hF; exact ⟨σ', .none, _, eσ, rfl, I', hq⟩
  | cont => cases hF; exact ⟨σ', .none, _, eσ, rfl, I', hq⟩
  | ret X => obtain ⟨v, rfl, hv⟩ := hF; exact ⟨σ', X, _, eσ, hv, I', hq⟩
end
def cellScope (x star : String) : Scope := { kind := .function, names := [(Str.ofString ".0", .local), (Str.ofString x, .local), (Str.ofString star, .cell)], isGenerator := false, isCoroutine := false }
section
variable {C : Cx} {sc : Scope}
theorem EV.compCell {elt iter : Expr} {x star : String} {px pos : Pos} {a e : EW} {k0 : Nat} (hi : EV C sc iter a) (hsc : sc.kind = .function) (hst : sc.names.lookup (Str.ofString star) = some .cell) (hci : C.ci = fun y => if y = star then some k0 else none) (hcl : ∃ b, C.cl = [(Str.ofString star, b)])
    (he : ∀ C' : Cx, C'.G = C.G → C'.d = C.d → C'.cd = C.cd → C'.qual = C.qual → C'.nb = C.nb → C'.ci = C.ci → EV C' (cellScope x star) elt e) (hx0 : x ≠ ".0") (hs : ∀ env x, foldedSetIterable iter env x = pure x := by intros; rfl) :
    EV C sc (.ListComp elt [⟨.Name (Str.ofString x) px, iter, [], 0⟩] { kind := .function, names := [(Str.ofString ".0", .local), (Str.ofString x, .local), (Str.ofString star, .free)], isGenerator := false, isCoroutine := false } pos) (wComp x a e) := by
  have hxs : (Str.ofString x == Str.ofString ".0") = false := by
    have : Str.ofString x ≠ Str.ofString ".0" := fun q => hx0 (ofString_inj q)
    simpa using this
  refine comp_any (ci := C.ci) hi rfl (fun y hy => ?_) (fun y hy hl => ?_) (sc' := cellScope x star) ?_ rfl (fun env hn => ?_) (fun env σ st s hn I => ?_) he hs
  · simp at hy
    rcases hy with rfl | rfl | rfl <;> simp
  · simp at hy
    rcases hy with rfl | rfl | rfl
    · simp
    · simp [List.lookup_cons, hxs]
    · simp at hl
  · show List.lookup (Str.ofString x) _ = _
    simp [cellScope, List.lookup_cons, hxs]
  · unfold relabel cellScope
    have h1 : env.scope.kind = .function := by rw [hn.esc]; exact hsc
    have h2 : env.kindOf (Str.ofString star) = some .cell := by unfold Env.kindOf; rw [hn.esc]; exact hst
    simp [h1, h2]
  · obtain ⟨b, hb⟩ := hcl
    refine ⟨[(Str.ofString star, b)], ?_, fun y k hy => ?_⟩
    · have h3 : cellOf env (Str.ofString star) = pure b := by unfold cellOf; rw [hn.cells, hb]; simp
      simp only [closureFor, List.forIn_cons, List.forIn_nil]
      simp [h3]
    · have := I.cel y k hy
      rw [hb] at this; exact this
end
section
variable {C : Cx} {sc : Scope}
theorem compAssign_any {elt iter : Expr} {x y : String} {px py pos spos : Pos} {scope sc' : Scope} {a e : EW} {ci : String → Option Nat} (hi : EV C sc iter a) (hkind : scope.kind = .function) (hcell : ∀ y ∈ scope.names, y.2 ≠ .cell) (hnames : ∀ y ∈ scope.names, y.2 = .local → scope.names.lookup y.1 = some .local)
    (hx : sc'.names.lookup (Str.ofString x) = some .local) (hk' : sc'.kind = .function) (hrel : ∀ env, EnvAt C sc env → relabel scope env = sc')
    (hclos : ∀ env (σ : List Addr) (st : St) (s : Shared), EnvAt C sc env → InvS C σ st s → ∃ cl : List (Str × Addr), closureFor scope env = pure cl ∧ ∀ (y : String) (k : Nat), ci y = some k → ∃ b : Addr, σ[k]? = some b ∧ cl.lookup (Str.ofString y) = some b)
    (he : ∀ C' : Cx, C'.G = C.G → C'.d = C.d → C'.cd = C.cd → C'.qual = C.qual → C'.nb = C.nb → C'.ci = ci → EV C' sc' elt e) (hs : ∀ env x, foldedSetIterable iter env x = pure x)
    (hsw : ∀ env, EnvAt C sc env → swapsWith (.ListComp elt [⟨.Name (Str.ofString x) px, iter, [], 0⟩] scope pos) (some (.Name (Str.ofString y) py)) spos.line env = pure true) (hly : sc.names.lookup (Str.ofString y) = some .local) :
    ES C sc (.Assign [.Name (Str.ofString y) py] (.ListComp elt [⟨.Name (Str.ofString x) px, iter, [], 0⟩] scope pos) spos) (sAssign y (wComp x a e)) := fun env A s σ st Q hn hA I hT h => by
  rw [exec_Assign_Name_used _ _ _ _ (hsw env hn)]
  refine wpAny_bind (wpAny_standAt (wpAny_bind ?_))
  show wpAny _ A (do let _ ← comprehension (.ListComp elt [⟨.Name (Str.ofString x) px, iter, [], 0⟩] scope pos) scope env _ (newList []) false (eval iter env) (some (assign (.Name (Str.ofString y) py) env))) _ _ s
  refine wpAny_bind (falso (wpAny_mono (Q := fun _ s' => PS C σ Q .next s') ?_ (fun _ s' hq => wpAny_pure (wpAny_pure hq)) fun _ _ e => e))
  refine comp_core hi hkind hcell hnames hx hk' hrel hclos he hs hn hA I hT h fun D L2 σ2 st2 k s2 m2 f e2 hv I2 hns hf hq => ?_
  obtain ⟨oL, hoL, hdL⟩ := ns_data hns
  have hn' : EnvAt (C.pin L2 oL) sc env := ⟨hn.esc, hn.loc, hn.glob, hn.blt, hn.kind, hn.code, hn.qual, hn.cells⟩
  show wpAny _ A (assign (.Name (Str.ofString y) py) env (.ref D)) _ _ _
  refine wpAny_assign_Name (store_name (C := C.pin L2 oL) (X := .ref k) hn' (I2.pinOn hoL hf.1 hf.2.1 hf.2.2.1) hv hly fun s7 I7 => ?_)
  obtain ⟨I8, g1, g2, g3, g4⟩ := I7.pinOff
  obtain ⟨oz, es, ep, hz, r⟩ := hns
  rw [hoL] at hz; cases hz
  exact ⟨m2, ⟨oL, es, ep, g1, r⟩, fun h3 hs3 => ⟨σ2, .next, _, e2, rfl, I8.apart hs3.extBut g2 g3 g4 hf.2.2.2.1 hf.2.2.2.2 g1 (.inr hdL), hq⟩⟩
end
section
variable {C : Cx} {sc : Scope}
theorem ES.compCell {elt iter : Expr} {x y star : String} {px py pos spos : Pos} {a e : EW} {k0 : Nat} (hi : EV C sc iter a) (hsc : sc.kind = .function) (hst : sc.names.lookup (Str.ofString star) = some .cell) (hci : C.ci = fun y => if y = star then some k0 else none) (hcl : ∃ b, C.cl = [(Str.ofString star, b)])
    (he : ∀ C' : Cx, C'.G = C.G → C'.d = C.d → C'.cd = C.cd → C'.qual = C.qual → C'.nb = C.nb → C'.ci = C.ci → EV C' (cellScope x star) elt e) (hx0 : x ≠ ".0") (hly : sc.names.lookup (Str.ofString y) = some .local)
    (hsw : ∀ env, EnvAt C sc env → swapsWith (.ListComp elt [⟨.Name (Str.ofString x) px, iter, [], 0⟩] { kind := .function, names := [(Str.ofString ".0", .local), (Str.ofString x, .local), (Str.ofString star, .free)], isGenerator := false, isCoroutine := false } pos) (some (.Name (Str.ofString y) py)) spos.line env = pure true)
    (hs : ∀ env x, foldedSetIterable iter env x = pure x := by intros; rfl) :
    ES C sc (.Assign [.Name (Str.ofString y) py] (.ListComp elt [⟨.Name (Str.ofString x) px, iter, [], 0⟩] { kind := .function, names := [(Str.ofString ".0", .local), (Str.ofString x, .local), (Str.ofString star, .free)], isGenerator := false, isCoroutine := false } pos) spos) (sAssign y (wComp x a e)) := by
  have hxs : (Str.ofString x == Str.ofString ".0") = false := by
    have : Str.ofString x ≠ Str.ofString ".0" := fun q => hx0 (ofString_inj q)
    simpa using this
  refine compAssign_any (ci := C.ci) hi rfl (fun y hy => ?_) (fun y hy hl => ?_) (sc' := cellScope x star) ?_ rfl (fun env hn => ?_) (fun env σ st s hn I => ?_) he hs hsw hly
  · simp at hy
    rcases hy with rfl | rfl | rfl <;> simp
  · simp at hy
    rcases hy with rfl | rfl | rfl
    · simp
    · simp [List.lookup_cons, hxs]
    · simp at hl
  · show List.lookup (Str.ofString x) _ = _
    simp [cellScope, List.lookup_cons, hxs]
  · unfold relabel cellScope
    have h1 : env.scope.kind = .function := by rw [hn.esc]; exact hsc
    have h2 : env.kindOf (Str.ofString star) = some .cell := by unfold Env.kindOf; rw [hn.esc]; exact hst
    simp [h1, h2]
  · obtain ⟨b, hb⟩ := hcl
    refine ⟨[(Str.ofString star, b)], ?_, fun y k hy => ?_⟩
    · have h3 : cellOf env (Str.ofString star) = pure b := by unfold cellOf; rw [hn.cells, hb]; simp
      simp only [closureFor, List.forIn_cons, List.forIn_nil]
      simp [h3]
    · have := I.cel y k hy
      rw [hb] at this; exact this
end
theorem top_call {C' : Cx} {f : Addr} {fd : FuncData} {ps : List String} {body : List Stmt} {b : SW} {sc' : Scope} {A : Around} {s : Shared} {σ : List Addr} {st' : St} {vs : List Value} {Q : Fl → St → Prop}
    (D : DefAt C' f fd ps body sc') (hcell : ∀ x ∈ sc'.names, x.2 ≠ .cell) (ex : EX C' sc' body b) (K : C'.G.K.In s.heap) (hlim : s.heap.NoLimit) (hL : C'.L = s.heap.objs.size) (hcd : C'.cd = fd.code) (hq : C'.qual = fd.qualname ++ ".<locals>.") (hcl : C'.cl = [])
    (hAd : A.depth < recursionLimit) (hA : AOk C'.d (A.deeper (callEnv fd s.heap.objs.size f))) (hvl : vs.length = ps.length) (hps : 1 ≤ ps.length)
    (J : ∀ h₁ : Heap, h₁.Ns s.heap.objs.size (fun y => ((ps.map Str.ofString).zip vs).lookup y) → (∀ b o, s.heap.get? b = some o → h₁.get? b = some o) → Inv C' σ st' h₁ s.gens s.os) (h : b st' Q) :
    wpAny (model C'.G.prog C'.G.w) A (call (.ref f) vs) (fun v s' => ∃ FL σ' st2, InvS C' σ' st2 s' ∧ Q FL st2 ∧ (match FL with | .ret X => VR σ' X v | _ => v = .none)) Bot s := by
  obtain ⟨o, ho, hfd⟩ := D.ob
  have hsc := D.esc
  have hzf : ((ps.map Str.ofString).zip vs).map (·.1) = ps.map Str.ofString := zip_fst _ _ (by simp [hvl])
  have hzl : ((ps.map Str.ofString).zip vs).length = ps.length := by have := congrArg List.length hzf; simpa using this
  refine wpAny_call (codeAny_call_def (fd := fd) (body := body) (binds := (ps.map Str.ofString).zip vs) hAd (K _ _ ho) hfd hlim ?_ D.body
    (BindsTo.of_eq (D.binds vs hvl)) (by rw [hsc]; exact hcell) ?_ (fun h₁ hns hk₁ => ?_) (by rw [hsc]; exact D.coro) (by rw [hsc]; exact D.gen) (by rw [hsc]; exact D.kind))
  · obtain ⟨c, oc, ws, t, e1, e2, e3, e4⟩ := D.code
    exact ⟨c, oc, ws, t, e1, K _ _ e2, e3, e4⟩
  · intro x hx
    rw [hsc]
    have : x.1 ∈ ((ps.map Str.ofString).zip vs).map (·.1) := List.mem_map_of_mem hx
    rw [hzf] at this
    obtain ⟨p, hp, e⟩ := List.mem_map.mp this
    rw [← e]; exact D.loc p hp
  · have hns' : h₁.Ns s.heap.objs.size (fun y => ((ps.map Str.ofString).zip vs).lookup y) := by
      have e : (fun x => ((ps.map Str.ofString).zip vs).reverse.lookup x) = fun y => ((ps.map Str.ofString).zip vs).lookup y := by
        funext x; exact lookup_rev (by rw [hzf]; exact D.nodup) x
      rw [← e]; exact hns
    have J1 := J h₁ hns' hk₁
    have hE : EnvAt C' sc' (callEnv fd s.heap.objs.size f) := ⟨hsc, hL.symm, D.glob, D.blt, D.kind, hcd.symm, hq.symm, by rw [hcl]; exact D.clo⟩
    have key := ex (callEnv fd s.heap.objs.size f) (A.deeper (callEnv fd s.heap.objs.size f)) { s with heap := h₁, toks := s.toks + ((ps.map Str.ofString).zip vs).length } σ st' Q hE hA J1 (by show 1 ≤ s.toks + _; rw [hzl]; omega) h
    refine falso (wpAny_mono key (fun fl s' hp => ?_) fun _ _ e => e)
    obtain ⟨σ', FL, st2, e', hF, J', hq⟩ := hp
    cases FL with
    | next => cases hF; exact ⟨.next, σ', st2, J', hq, rfl⟩
    | brk => cases hF; exact ⟨.brk, σ', st2, J', hq, rfl⟩
    | cont => cases hF; exact ⟨.cont, σ', st2, J', hq, rfl⟩
    | ret X => obtain ⟨v, rfl, hv⟩ := hF; exact ⟨.ret X, σ', st2, J', hq, hv⟩
def sFalse : SW := fun _ _ => False
def wCellN : EW := fun st Q => ∃ X, st.sto[st.nb]? = some (.cell (some X)) ∧ Q X st
def sCellN (a : EW) : SW := fun st Q => a st fun X st1 => ∃ Y, st1.sto[st1.nb]? = some (.cell Y) ∧ Q .next (st1.upd st1.nb (.cell (some X)))
def dashed (t : List Nat) : List Nat := repl1 45 (sl "\\-") (repl1 92 (sl "\\\\") t)
def specials : List Nat := [40, 41, 91, 93, 123, 125, 63, 42, 43, 45, 124, 94, 36, 92, 46, 38, 126, 35, 32, 9, 10, 13, 11, 12]

section
variable {C : Cx} {sc : Scope}
theorem EX.no {e : List Stmt} : EX C sc e sFalse := fun _ _ _ _ _ _ _ _ _ _ h => h.elim
theorem EV.cellN {x : String} {p : Pos} (hl : sc.names.lookup (Str.ofString x) = some .cell) (hd : (Str.ofString x == ("__debug__" : Str)) = false) (hci : C.ci = fun y => if y = x then some C.nb else none) :
    EV C sc (.Name (Str.ofString x) p) wCellN := fun env A s σ st Q he hA I hT h => by
  obtain ⟨X, hX, hq⟩ := h
  exact EV.nameCell hl hd env A s σ st Q he hA I hT ⟨st.nb, X, by rw [hci, I.enb]; simp, hX, hq⟩
theorem ES.cellN {x : String} {p p' : Pos} {e : Expr} {a : EW} (he : EV C sc e a) (hl : sc.names.lookup (Str.ofString x) = some .cell) (hs : ∀ env, swapsWith e (some (.Name (Str.ofString x) p')) p.line env = pure false) (hci : C.ci = fun y => if y = x then some C.nb else none) :
    ES C sc (.Assign [.Name (Str.ofString x) p'] e p) (sCellN a) := fun env A s σ st Q hn hA I hT h => by
  refine wpAny_Assign_Name (tmono hT (he env A s σ st _ hn hA I hT h) (fun v s1 t1 h1 => ?_) fun _ _ e => e) (hs env)
  obtain ⟨σ1, X, st1, e1, hX, I1, Y, hY, h1⟩ := h1
  obtain ⟨b, hb, hc⟩ := I1.cel x st1.nb (by rw [hci, I1.enb]; simp)
  obtain ⟨a', ob, f1, f2, f3⟩ := I1.obj _ _ hY
  rw [hb] at f1; cases f1
  have hcell : ∃ w, ob.data = .cell w := by
    cases Y with
    | none => exact ⟨none, f3⟩
    | some Y => obtain ⟨v, f3, _⟩ := f3; exact ⟨_, f3⟩
  obtain ⟨w, hw⟩ := hcell
  refine wpAny_storeName_cell (by rw [hn.esc]; exact hn.kind) (by unfold Env.kindOf; rw [hn.esc]; exact hl) (by rw [hn.cells]; exact hc) ⟨ob, f2, hw⟩ fun h' hv hs => ?_
  obtain ⟨ob', g1, g2⟩ := hv
  exact ⟨σ1, .next, _, e1, rfl, I1.updObj (o := .cell (some X)) hb (Nat.le_refl _) f2 (by rw [hw]; simp) hs g1 ⟨v, g2, hX⟩, h1⟩
end

def wparse_http_list_for1 : SW := (sCons (sIf (bVal (wName "escape")) (sCons (sAug "part" .Add (wName "cur")) (sCons (sAssign "escape" (wC (.bool false))) (sCons (sFl .cont) sNil))) sNil) (sCons (sIf (bVal (wName "quote")) (sCons (sIf (bCmp .Eq (wName "cur") (wC (.str (sl "\\")))) (sCons (sAssign "escape" (wC (.bool true))) (sCons (sFl .cont) sNil)) (sCons (sIf (bCmp .Eq (wName "cur") (wC (.str (sl "\"")))) (sCons (sAssign "quote" (wC (.bool false))) sNil) sNil) sNil)) (sCons (sAug "part" .Add (wName "cur")) (sCons (sFl .cont) sNil))) sNil) (sCons (sIf (bCmp .Eq (wName "cur") (wC (.str (sl ",")))) (sCons (sExpr (wMethL (wName "res") (lCons (wName "part") lNil) cAppend)) (sCons (sAssign "part" (wC (.str (sl "")))) (sCons (sFl .cont) sNil))) sNil) (sCons (sIf (bCmp .Eq (wName "cur") (wC (.str (sl "\"")))) (sCons (sAssign "quote" (wC (.bool true))) sNil) sNil) (sCons (sAug "part" .Add (wName "cur")) sNil)))))
def bparse_http_list : SW := (sCons (sAssign "res" (wList lNil)) (sCons (sAssign "part" (wC (.str (sl "")))) (sCons (sAssign2 "escape" "quote" (wC (.bool false))) (sCons (sFor "cur" (wName "s") wparse_http_list_for1) (sCons (sIf (bVal (wName "part")) (sCons (sExpr (wMethL (wName "res") (lCons (wName "part") lNil) cAppend)) sNil) sNil) (sCons (sRet (wComp "part" (wName "res") (wMethS0 (wName "part") cStrip))) sNil))))))
def wparse_http_list : CW := wFn ["s"] bparse_http_list
def bescape : SW := (sCons (sIf (bVal (wIsStr "pattern")) (sCons (sRet (wTrans "pattern" specials)) sNil) sFalse) sNil)
def wescape : CW := wFn ["pattern"] bescape
def w_translate_for2 : SW := (sCons (sIf (bCmp .Gt (wItem (wItem (wName "chunks") (wBin .Sub (wName "k") (wC (.int 1)))) (wC (.int (-1)))) (wItem (wItem (wName "chunks") (wName "k")) (wC (.int 0)))) (sCons (sSetItem (wBin .Add (wSlice (wItem (wName "chunks") (wBin .Sub (wName "k") (wC (.int 1)))) pNone (pSome (wC (.int (-1))))) (wSlice (wItem (wName "chunks") (wName "k")) (pSome (wC (.int 1))) pNone)) (wName "chunks") (wBin .Sub (wName "k") (wC (.int 1)))) (sCons (sDel (wName "chunks") (wName "k")) sNil)) sNil) sNil)
def w_translate_while3 : SW := (sCons (sAssign "k" (wMethS (wName "pat") (lCons (wC (.str (sl "-"))) (lCons (wName "k") (lCons (wName "j") lNil))) cFind)) (sCons (sIf (bCmp .Lt (wName "k") (wC (.int 0))) (sCons (sFl .brk) sNil) sNil) (sCons (sExpr (wMethL (wName "chunks") (lCons (wSlice (wName "pat") (pSome (wName "i")) (pSome (wName "k"))) lNil) cAppend)) (sCons (sAssign "i" (wBin .Add (wName "k") (wC (.int 1)))) (sCons (sAssign "k" (wBin .Add (wName "k") (wC (.int 3)))) sNil)))))
def w_translate_while4 : SW := (sCons (sAssign "j" (wBin .Add (wName "j") (wC (.int 1)))) sNil)
def w_translate_while1 : SW := (sCons (sAssign "c" (wItem (wName "pat") (wName "i"))) (sCons (sAssign "i" (wBin .Add (wName "i") (wC (.int 1)))) (sCons (sIf (bCmp .Eq (wName "c") (wC (.str (sl "*")))) (sCons (sIf (bOr (bNot (bVal (wName "res"))) (bCmp .IsNot (wItem (wName "res") (wC (.int (-1)))) (wName "STAR"))) (sCons (sExpr (wAdd "add" (lCons (wName "STAR") lNil))) sNil) sNil) sNil) (sCons (sIf (bCmp .Eq (wName "c") (wC (.str (sl "?")))) (sCons (sExpr (wAdd "add" (lCons (wName "QUESTION_MARK") lNil))) sNil) (sCons (sIf (bCmp .Eq (wName "c") (wC (.str (sl "[")))) (sCons (sAssign "j" (wName "i")) (sCons (sIf (bAnd (bCmp .Lt (wName "j") (wName "n")) (bCmp .Eq (wItem (wName "pat") (wName "j")) (wC (.str (sl "!"))))) (sCons (sAssign "j" (wBin .Add (wName "j") (wC (.int 1)))) sNil) sNil) (sCons (sIf (bAnd (bCmp .Lt (wName "j") (wName "n")) (bCmp .Eq (wItem (wName "pat") (wName "j")) (wC (.str (sl "]"))))) (sCons (sAssign "j" (wBin .Add (wName "j") (wC (.int 1)))) sNil) sNil) (sCons (sWhile (bAnd (bCmp .Lt (wName "j") (wName "n")) (bNe (wItem (wName "pat") (wName "j")) (wC (.str (sl "]"))))) w_translate_while4) (sCons (sIf (bCmp .GtE (wName "j") (wName "n")) (sCons (sExpr (wAdd "add" (lCons (wC (.str (sl "\\["))) lNil))) sNil) (sCons (sAssign "stuff" (wSlice (wName "pat") (pSome (wName "i")) (pSome (wName "j")))) (sCons (sIf (bNotIn 45 (wName "stuff")) (sCons (sAssign "stuff" (wRepl (wName "stuff") 92 (sl "\\\\"))) sNil) (sCons (sAssign "chunks" (wList lNil)) (sCons (sAssign "k" (wIte (bCmp .Eq (wItem (wName "pat") (wName "i")) (wC (.str (sl "!")))) (wBin .Add (wName "i") (wC (.int 2))) (wBin .Add (wName "i") (wC (.int 1))))) (sCons (sWhile (bVal (wC (.bool true))) w_translate_while3) (sCons (sAssign "chunk" (wSlice (wName "pat") (pSome (wName "i")) (pSome (wName "j")))) (sCons (sIf (bVal (wName "chunk")) (sCons (sExpr (wMethL (wName "chunks") (lCons (wName "chunk") lNil) cAppend)) sNil) (sCons (sAugItem (wName "chunks") (wC (.int (-1))) .Add (wC (.str (sl "-")))) sNil)) (sCons (sDown "k" (wBin .Sub (wCall (lCons (wName "chunks") lNil) cLen) (wC (.int 1))) w_translate_for2) (sCons (sAssign "stuff" (fun st Q => (wC (.str (sl "-"))) st fun X st1 => ∃ x, X = .str x ∧ jGen "chunks" dashed (fun t => t.length ≤ 1000) x st1 Q)) sNil)))))))) (sCons (sAssign "stuff" (wSub "stuff")) (sCons (sAssign "i" (wBin .Add (wName "j") (wC (.int 1)))) (sCons (sIf (bNot (bVal (wName "stuff"))) (sCons (sExpr (wAdd "add" (lCons (wC (.str (sl "(?!)"))) lNil))) sNil) (sCons (sIf (bCmp .Eq (wName "stuff") (wC (.str (sl "!")))) (sCons (sExpr (wAdd "add" (lCons (wC (.str (sl "."))) lNil))) sNil) (sCons (sIf (bCmp .Eq (wItem (wName "stuff") (wC (.int 0))) (wC (.str (sl "!")))) (sCons (sAssign "stuff" (wBin .Add (wC (.str (sl "^"))) (wSlice (wName "stuff") (pSome (wC (.int 1))) pNone))) sNil) (sCons (sIf (bInTwo (wItem (wName "stuff") (wC (.int 0))) "^" "[") (sCons (sAssign "stuff" (wBin .Add (wC (.str (sl "\\"))) (wName "stuff"))) sNil) sNil) sNil)) (sCons (sExpr (wAdd "add" (lCons (wF3 "[" (wName "stuff") "]") lNil))) sNil))) sNil)) sNil)))))) sNil))))) (sCons (sExpr (wAdd "add" (lCons (wCall (lCons (wName "c") lNil) wescape) lNil))) sNil)) sNil)) sNil)) sNil)))
def b_translate : SW := (sCons (sAssign "res" (wList lNil)) (sCons (sAssign "add" (wApp "res")) (sCons (sPair "i" "n" (wC (.int 0)) (wCall (lCons (wName "pat") lNil) cLen)) (sCons (sWhile (bCmp .Lt (wName "i") (wName "n")) w_translate_while1) (sCons (sAssert (bCmp .Eq (wName "i") (wName "n"))) (sCons (sRet (wName "res")) sNil))))))
def w_translate : CW := wFn ["pat", "STAR", "QUESTION_MARK"] b_translate
def w_join_translated_parts_while2 : SW := (sCons (sExpr (wMethL (wName "fixed") (lCons (wItem (wName "inp") (wName "i")) lNil) cAppend)) (sCons (sAug "i" .Add (wC (.int 1))) sNil))
def w_join_translated_parts_while1 : SW := (sCons (sAssert (bCmp .Is (wItem (wName "inp") (wName "i")) (wName "STAR"))) (sCons (sAug "i" .Add (wC (.int 1))) (sCons (sIf (bCmp .Eq (wName "i") (wName "n")) (sCons (sExpr (wAdd "add" (lCons (wC (.str (sl ".*"))) lNil))) (sCons (sFl .brk) sNil)) sNil) (sCons (sAssert (bCmp .IsNot (wItem (wName "inp") (wName "i")) (wName "STAR"))) (sCons (sAssign "fixed" (wList lNil)) (sCons (sWhile (bAnd (bCmp .Lt (wName "i") (wName "n")) (bCmp .IsNot (wItem (wName "inp") (wName "i")) (wName "STAR"))) w_join_translated_parts_while2) (sCons (sAssign "fixed" (wMethS (wC (.str (sl ""))) (lCons (wName "fixed") lNil) cJoin)) (sCons (sIf (bCmp .Eq (wName "i") (wName "n")) (sCons (sExpr (wAdd "add" (lCons (wC (.str (sl ".*"))) lNil))) (sCons (sExpr (wAdd "add" (lCons (wName "fixed") lNil))) sNil)) (sCons (sExpr (wAdd "add" (lCons (wF3 "(?>.*?" (wName "fixed") ")") lNil))) sNil)) sNil))))))))
def w_join_translated_parts_while3 : SW := (sCons (sExpr (wAdd "add" (lCons (wItem (wName "inp") (wName "i")) lNil))) (sCons (sAug "i" .Add (wC (.int 1))) sNil))
def b_join_translated_parts : SW := (sCons (sAssign "res" (wList lNil)) (sCons (sAssign "add" (wApp "res")) (sCons (sPair "i" "n" (wC (.int 0)) (wCall (lCons (wName "inp") lNil) cLen)) (sCons (sWhile (bAnd (bCmp .Lt (wName "i") (wName "n")) (bCmp .IsNot (wItem (wName "inp") (wName "i")) (wName "STAR"))) w_join_translated_parts_while3) (sCons (sWhile (bCmp .Lt (wName "i") (wName "n")) w_join_translated_parts_while1) (sCons (sAssert (bCmp .Eq (wName "i") (wName "n"))) (sCons (sAssign "res" (wMethS (wC (.str (sl ""))) (lCons (wName "res") lNil) cJoin)) (sCons (sRet (wF3 "(?s:" (wName "res") ")\\Z")) sNil))))))))
def w_join_translated_parts : CW := wFn ["inp", "STAR"] b_join_translated_parts
def btranslate : SW := (sCons (sAssign "STAR" (fun st Q => cObject [] st Q)) (sCons (sAssign "parts" (wCall (lCons (wName "pat") (lCons (wName "STAR") (lCons (wC (.str (sl "."))) lNil))) w_translate)) (sCons (sRet (wCall (lCons (wName "parts") (lCons (wName "STAR") lNil)) w_join_translated_parts)) sNil)))
def wtranslate : CW := wFn ["pat"] btranslate
def b_law_sign : SW := (sCons (sIf (bCmp .Lt (wBin .Mod (wName "number") (wC (.int 32))) (wC (.int 24))) (sCons (sRet (wItem (wC (.str (sl "*?[]!-abc\\^&, .|*[]--!\n~"))) (wBin .Mod (wName "number") (wC (.int 32))))) sNil) sNil) (sCons (sAssign "code" (wBin .Mod (wBin .FloorDiv (wName "number") (wC (.int 32))) (wC (.int 1112064)))) (sCons (sIf (bCmp .Gt (wName "code") (wC (.int 55295))) (sCons (sAssign "code" (wBin .Add (wName "code") (wC (.int 2048)))) sNil) sNil) (sCons (sIf (bCmp .Eq (wName "code") (wC (.int 34))) (sCons (sRet (wC (.str (sl "a")))) sNil) sNil) (sCons (sRet (wCall (lCons (wName "code") lNil) cChr)) sNil)))))
def w_law_sign : CW := wFn ["number"] b_law_sign
def w_law_bracket_while1 : SW := (sCons (sIf (bAnd (bCmp .Eq (wSlice (wName "signs") (pSome (wBin .Add (wName "at") (wC (.int 1)))) (pSome (wBin .Add (wName "at") (wC (.int 2))))) (wC (.str (sl "-")))) (bCmp .Lt (wBin .Add (wName "at") (wC (.int 2))) (wCall (lCons (wName "signs") lNil) cLen))) (sCons (sIf (bCmp .LtE (wItem (wName "signs") (wName "at")) (wItem (wName "signs") (wBin .Add (wName "at") (wC (.int 2))))) (sCons (sAssign "kept" (wBin .Add (wName "kept") (wSlice (wName "signs") (pSome (wName "at")) (pSome (wBin .Add (wName "at") (wC (.int 3))))))) sNil) sNil) (sCons (sAssign "at" (wBin .Add (wName "at") (wC (.int 3)))) sNil)) (sCons (sAssign "kept" (wBin .Add (wName "kept") (wItem (wName "signs") (wName "at")))) (sCons (sAssign "at" (wBin .Add (wName "at") (wC (.int 1)))) sNil))) sNil)
def b_law_bracket : SW := (sCons (sAssign "at" (wC (.int 0))) (sCons (sWhile (bCmp .Lt (wName "at") (wCall (lCons (wName "signs") lNil) cLen)) w_law_bracket_while1) (sCons (sIf (bCmp .Eq (wName "kept") (wC (.str (sl "")))) (sCons (sRet (wC (.str (sl "(?!)")))) sNil) sNil) (sCons (sIf (bCmp .Eq (wName "kept") (wC (.str (sl "!")))) (sCons (sRet (wC (.str (sl ".")))) sNil) sNil) (sCons (sIf (bCmp .Eq (wItem (wName "kept") (wC (.int 0))) (wC (.str (sl "!")))) (sCons (sAssign "kept" (wBin .Add (wC (.str (sl "^"))) (wSlice (wName "kept") (pSome (wC (.int 1))) pNone))) sNil) sNil) (sCons (sRet (wBin .Add (wBin .Add (wC (.str (sl "["))) (wName "kept")) (wC (.str (sl "]"))))) sNil))))))
def w_law_bracket : CW := wFn ["kept", "signs"] b_law_bracket
def w_law_items_while1 : SW := (sCons (sAssign "sign" (wItem (wName "pattern") (wName "at"))) (sCons (sAssign "at" (wBin .Add (wName "at") (wC (.int 1)))) (sCons (sIf (bCmp .Eq (wName "sign") (wC (.str (sl "*")))) (sCons (sIf (bNeD (wSlice (wName "items") (pSome (wC (.int (-1)))) pNone) (wList (lCons (wC .none) lNil))) (sCons (sExpr (wMethL (wName "items") (lCons (wC .none) lNil) cAppend)) sNil) sNil) sNil) (sCons (sIf (bCmp .Eq (wName "sign") (wC (.str (sl "[")))) (sCons (sAssign "first" (wIte (bCmp .Eq (wSlice (wName "pattern") (pSome (wName "at")) (pSome (wBin .Add (wName "at") (wC (.int 1))))) (wC (.str (sl "!")))) (wBin .Add (wName "at") (wC (.int 1))) (wName "at"))) (sCons (sAssign "shut" (wMethS (wName "pattern") (lCons (wC (.str (sl "]"))) (lCons (wBin .Add (wName "first") (wC (.int 1))) lNil)) cFind)) (sCons (sIf (bCmp .Lt (wName "shut") (wC (.int 0))) (sCons (sExpr (wMethL (wName "items") (lCons (wC (.str (sl "["))) lNil) cAppend)) sNil) (sCons (sExpr (wMethL (wName "items") (lCons (wCall (lCons (wSlice (wName "pattern") (pSome (wName "at")) (pSome (wName "first"))) (lCons (wSlice (wName "pattern") (pSome (wName "first")) (pSome (wName "shut"))) lNil)) w_law_bracket) lNil) cAppend)) (sCons (sAssign "at" (wBin .Add (wName "shut") (wC (.int 1)))) sNil))) sNil))) (sCons (sExpr (wMethL (wName "items") (lCons (wName "sign") lNil) cAppend)) sNil)) sNil)) sNil)))
def b_law_items : SW := (sCons (sAssign "items" (wList lNil)) (sCons (sAssign "at" (wC (.int 0))) (sCons (sWhile (bCmp .Lt (wName "at") (wCall (lCons (wName "pattern") lNil) cLen)) w_law_items_while1) (sCons (sRet (wName "items")) sNil))))
def w_law_items : CW := wFn ["pattern"] b_law_items
def w_law_due_for1 : SW := (sCons (sAssign "body" (wBin .Add (wBin .Add (wBin .Add (wName "body") (wC (.str (sl "(?>.*?")))) (wName "row")) (wC (.str (sl ")"))))) sNil)
def w_law_due_for2 : SW := (sCons (sIf (bCmp .Is (wName "item") (wC .none)) (sCons (sExpr (wMethL (wName "rows") (lCons (wC (.str (sl ""))) lNil) cAppend)) sNil) (sCons (sSetItem (wBin .Add (wItem (wName "rows") (wC (.int (-1)))) (wIte (bCmp .Eq (wName "item") (wC (.str (sl "?")))) (wC (.str (sl "."))) (wName "item"))) (wName "rows") (wC (.int (-1)))) sNil)) sNil)
def b_law_due : SW := (sCons (sAssign "items" (wCall (lCons (wName "pattern") lNil) w_law_items)) (sCons (sAssign "rows" (wList (lCons (wC (.str (sl ""))) lNil))) (sCons (sFor "item" (wName "items") w_law_due_for2) (sCons (sAssign "body" (wItem (wName "rows") (wC (.int 0)))) (sCons (sFor "row" (wSlice (wName "rows") (pSome (wC (.int 1))) (pSome (wC (.int (-1))))) w_law_due_for1) (sCons (sIf (bCmp .Gt (wCall (lCons (wName "rows") lNil) cLen) (wC (.int 1))) (sCons (sAssign "body" (wBin .Add (wBin .Add (wName "body") (wC (.str (sl ".*")))) (wItem (wName "rows") (wC (.int (-1)))))) sNil) sNil) (sCons (sRet (wList (lCons (wComp "item" (wName "items") (wIte (bCmp .Is (wName "item") (wC .none)) (wC (.str (sl "*"))) (wBin .Add (wBin .Add (wC (.str (sl "\""))) (wName "item")) (wC (.str (sl "\"")))))) (lCons (wList (lCons (wBin .Add (wBin .Add (wC (.str (sl "\"(?s:"))) (wName "body")) (wC (.str (sl ")Z\"")))) lNil)) lNil)))) sNil)))))))
def w_law_due : CW := wFn ["pattern"] b_law_due
def b_law_told : SW := (sCons (sCellN (wList (lCons (wC (.str (sl "*"))) lNil))) (sCons (sAssign "parts" (wCall (lCons (wName "pattern") (lCons wCellN (lCons (wC (.str (sl "?"))) lNil))) w_translate)) (sCons (sAssign "texts" (wComp "part" (wName "parts") (wIte (bCmp .Is (wName "part") wCellN) (wC (.str (sl "*"))) (wBin .Add (wBin .Add (wC (.str (sl "\""))) (wName "part")) (wC (.str (sl "\""))))))) (sCons (sRet (wList (lCons (wCall (lCons (wMethS (wC (.str (sl ", "))) (lCons (wName "texts") lNil) cJoin) lNil) wparse_http_list) (lCons (wCall (lCons (wBin .Add (wBin .Add (wC (.str (sl "\""))) (wCall (lCons (wName "pattern") lNil) wtranslate)) (wC (.str (sl "\"")))) lNil) wparse_http_list) lNil)))) sNil))))
def w_law_told : CW := wFnC "pattern" b_law_told
def blaw : SW := (sCons (sAssign "signs" (wMethS (wC (.str (sl ""))) (lCons (wComp "x" (wSlice (wName "script") pNone (pSome (wC (.int 16)))) (wCall (lCons (wBin .Mod (wName "x") (wC (.int 1000000000))) lNil) w_law_sign)) lNil) cJoin)) (sCons (sAssign "patterns" (wList (lCons (wName "signs") (lCons (wBin .Add (wBin .Add (wC (.str (sl "*["))) (wName "signs")) (wC (.str (sl "]?")))) lNil)))) (sCons (sRet (wEqD (wComp "pattern" (wName "patterns") (wCall (lCons (wName "pattern") lNil) w_law_told)) (wComp "pattern" (wName "patterns") (wCall (lCons (wName "pattern") lNil) w_law_due)))) sNil)))
def wlaw : CW := wFn ["script"] blaw
structure GOk (G : Gl) : Prop where
  k : G.K = pre.heap_1 G.w.params
  P : G.P = 62
  code : G.code = fun q o => if q.line = 90 then codeOf (Str.ofString "_translate" ++ Str.ofString ".<locals>." ++ Str.ofString "<genexpr>") o else codeOf (Str.ofString "_translate" ++ Str.ofString ".<locals>." ++ Str.ofString "<lambda>") o
  b : ∀ x ∈ ["len", "chr", "object", "isinstance", "str", "range"], G.mg (Str.ofString x) = none
  g : ∀ p ∈ [("parse_http_list", 36), ("_twin_re_1", 41), ("translate", 48), ("_special_chars_map", 50), ("escape", 60), ("_translate", 67), ("_join_translated_parts", 74), ("_law_sign", 81), ("_law_bracket", 88), ("_law_items", 95), ("_law_due", 100), ("_law_told", 105)], G.mg (Str.ofString p.1) = some (.ref p.2)

theorem K_of {G : Gl} (g : GOk G) {a : Addr} {o : Obj} (h : List.lookup a (pre.heap_1 G.w.params) = some o) : G.K.lookup a = some o := by rw [g.k]; exact h

theorem two_bind {fd : FuncData} {p q : String} (h : ∀ v w, bindArgs fd ⟨[v, w], []⟩ = pure [(Str.ofString p, v), (Str.ofString q, w)]) (vs : List Value) (hv : vs.length = [p, q].length) : bindArgs fd ⟨vs, []⟩ = pure (([p, q].map Str.ofString).zip vs) := by
  cases vs with
  | nil => cases hv
  | cons v r => cases r with
    | nil => cases hv
    | cons w r => cases r with
      | nil => exact h v w
      | cons x r => simp at hv
theorem three_bind {fd : FuncData} {p q r : String} (h : ∀ v w x, bindArgs fd ⟨[v, w, x], []⟩ = pure [(Str.ofString p, v), (Str.ofString q, w), (Str.ofString r, x)]) (vs : List Value) (hv : vs.length = [p, q, r].length) : bindArgs fd ⟨vs, []⟩ = pure (([p, q, r].map Str.ofString).zip vs) := by
  cases vs with
  | nil => cases hv
  | cons v r => cases r with
    | nil => cases hv
    | cons w r => cases r with
      | nil => cases hv
      | cons x r => cases r with
        | nil => exact h v w x
        | cons y r => simp at hv
theorem one_bind {fd : FuncData} {p : String} (h : ∀ v, bindArgs fd ⟨[v], []⟩ = pure [(Str.ofString p, v)]) (vs : List Value) (hv : vs.length = [p].length) : bindArgs fd ⟨vs, []⟩ = pure (([p].map Str.ofString).zip vs) := by
  obtain ⟨v, rfl⟩ := List.length_eq_one_iff.mp hv
  exact h v

def plOf (o : Expr) (env : Env) : Sem Bool := do return (← importBound o env).getD true
def MethForm (o : Expr) (name : Str) (apos pos : Pos) (args : List Expr) : Prop := ∀ env, eval (.Call (.Attribute o name apos) args [] pos) env = (do
      let ov ← eval o env
      standAt apos.atName
      let (f, first) ← holding [ov] (getMethod ov name (plOf o env))
      callWith pos f first (backTo pos (starEach args env)) [])
def Stars (e : Expr) (r : List Expr) : Prop := ∀ env, starEach (e :: r) env = (false, eval e env) :: starEach r env
def Plain (pos : Pos) (r : List Expr) : Prop := ∀ env, (backTo pos (starEach r env)).any (·.1) = false
section
variable {C : Cx} {sc : Scope}
theorem EV.methL_ {o e : Expr} {name : Str} {id : String} {r : List Expr} {apos pos : Pos} {a : EW} {b : LW} {W : CW} (slot : Slot "list" name id) (hty : typeOf (.builtin id) = pure (.type "method_descriptor")) (hc : CallOk C (.builtin id) W) (ho : EV C sc o a) (hargs : EL C sc (e :: r) b)
    (he : MethForm o name apos pos (e :: r)) (hst : Stars e r) (hplain : Plain pos r) : EV C sc (.Call (.Attribute o name apos) (e :: r) [] pos) (wMethL a b W) := EV.methL (pl := plOf o) ho hargs slot hty hc he hst hplain
theorem EV.methS_ {o e : Expr} {name : Str} {id : String} {r : List Expr} {apos pos : Pos} {a : EW} {b : LW} {W : CW} (slot : Slot "str" name id) (hty : typeOf (.builtin id) = pure (.type "method_descriptor")) (hc : CallOk C (.builtin id) W) (ho : EV C sc o a) (hargs : EL C sc (e :: r) b)
    (he : MethForm o name apos pos (e :: r)) (hst : Stars e r) (hplain : Plain pos r) : EV C sc (.Call (.Attribute o name apos) (e :: r) [] pos) (wMethS a b W) := EV.methS (pl := plOf o) ho hargs slot hty hc he hst hplain
theorem EV.methS0_ {o : Expr} {name : Str} {id : String} {apos pos : Pos} {a : EW} {W : CW} (slot : Slot "str" name id) (hty : typeOf (.builtin id) = pure (.type "method_descriptor")) (hc : CallOk C (.builtin id) W) (ho : EV C sc o a)
    (he : MethForm o name apos pos []) : EV C sc (.Call (.Attribute o name apos) [] [] pos) (wMethS0 a W) := EV.methS0 (pl := plOf o) ho slot hty hc he
theorem EV.repl_ {o : Expr} {y z : String} {c : Nat} {k1 k2 : Nat} {p1 p2 apos pos : Pos} {a : EW} (ho : EV C sc o a) (hy : Str.ofString y = ⟨#[c]⟩) (hyz : (Str.ofString y == Str.ofString z) = false)
    (he : MethForm o "replace" apos pos [.Constant (.str (Str.ofString y)) k1 p1, .Constant (.str (Str.ofString z)) k2 p2]) :
    EV C sc (.Call (.Attribute o "replace" apos) [.Constant (.str (Str.ofString y)) k1 p1, .Constant (.str (Str.ofString z)) k2 p2] [] pos) (wRepl a c (sl z)) := EV.repl (pl := plOf o) ho hy hyz he
theorem EV.callOwn {x : String} {f : Addr} {e : Expr} {r : List Expr} {p pos : Pos} {b : LW} {W : CW} (hc : CallOk C (.ref f) W) (hG : GOk C.G) (hg : C.G.mg (Str.ofString x) = some (.ref f)) (ho : ∃ o fd, List.lookup f (pre.heap_1 C.G.w.params) = some o ∧ o.data = .func fd)
    (hl : sc.names.lookup (Str.ofString x) = some .globalImplicit) (hd : (Str.ofString x == ("__debug__" : Str)) = false) (hargs : EL C sc (e :: r) b) (hst : Stars e r) : EV C sc (.Call (.Name (Str.ofString x) p) (e :: r) [] pos) (wCall b W) :=
  let ⟨_, _, h1, h2⟩ := ho
  EV.callF hl hd hg (K_of hG h1) h2 hargs hc hst
theorem EV.callBlt {x : String} {id : String} {e : Expr} {r : List Expr} {p pos : Pos} {b : LW} {W : CW} (hc : CallOk C (.builtin id) W) (hb : bootBuiltins (Str.ofString x) = some (.builtin id)) (hg : C.G.mg (Str.ofString x) = none) (hl : sc.names.lookup (Str.ofString x) = some .globalImplicit) (hd : (Str.ofString x == ("__debug__" : Str)) = false) (hne : Str.ofString x ≠ ("__name__" : Str))
    (hargs : EL C sc (e :: r) b) (hst : Stars e r) (hplain : Plain pos r) : EV C sc (.Call (.Name (Str.ofString x) p) (e :: r) [] pos) (wCall b W) := EV.callB hl hd hg hb hne hargs hc hst hplain
theorem boot_len : bootBuiltins (Str.ofString "len") = some (.builtin "len") := by decide +kernel
theorem boot_chr : bootBuiltins (Str.ofString "chr") = some (.builtin "chr") := by decide +kernel
theorem boot_object : bootBuiltins (Str.ofString "object") = some (.type "object") := by decide +kernel
theorem EV.trans_ {x y : String} {d : Addr} {ks : List Nat} {p1 p2 apos pos : Pos} (hks : ∀ h, C.G.K.In h → SpecAt h d ks) (hg : C.G.mg (Str.ofString y) = some (.ref d)) (hl : sc.names.lookup (Str.ofString x) = some .local) (hd : (Str.ofString x == ("__debug__" : Str)) = false)
    (hy : sc.names.lookup (Str.ofString y) = some .globalImplicit) (hyd : (Str.ofString y == ("__debug__" : Str)) = false) (he : MethForm (.Name (Str.ofString x) p1) "translate" apos pos [.Name (Str.ofString y) p2]) :
    EV C sc (.Call (.Attribute (.Name (Str.ofString x) p1) "translate" apos) [.Name (Str.ofString y) p2] [] pos) (wTrans x ks) := EV.trans (pl := plOf (.Name (Str.ofString x) p1)) hl hd hy hyd hg hks he
theorem EV.sub_ {x y : String} {p c : Addr} {params : Arguments} {body : Expr} {lscope : Scope} {p1 p2 lpos apos pos : Pos} (hP : ∀ h, C.G.K.In h → PatAt h p) (hC : ∀ h, C.G.K.In h → CodeHd h c C.G.P) (hcd : C.cd = .ref c) (hg : C.G.mg (Str.ofString y) = some (.ref p)) 
    (hq : ∀ (q : Pos) (o : Obj), q.line = lpos.line → q.col = lpos.col → (C.G.code q o ↔ codeOf (C.qual ++ "<lambda>") o)) (hl : sc.names.lookup (Str.ofString x) = some .local) (hd : (Str.ofString x == ("__debug__" : Str)) = false)
    (hy : sc.names.lookup (Str.ofString y) = some .globalImplicit) (hyd : (Str.ofString y == ("__debug__" : Str)) = false) (hdef : ∀ env, defaultsOf params env = ([], [])) (hcl : ∀ env, closureFor lscope env = pure [])
    (hD : ∀ cv pm, LamFd (kla_fn "<lambda>" (C.qual ++ "<lambda>") params body lscope [] pm cv .none)) (he : MethForm (.Name (Str.ofString y) p1) "sub" apos pos [.Lambda params body lscope lpos, .Name (Str.ofString x) p2]) :
    EV C sc (.Call (.Attribute (.Name (Str.ofString y) p1) "sub" apos) [.Lambda params body lscope lpos, .Name (Str.ofString x) p2] [] pos) (wSub x) := EV.sub (pl := plOf (.Name (Str.ofString y) p1)) hl hd hy hyd hg hP hcd hC hdef hcl hq hD he
theorem EV.joinG_ {sep y x : String} {elt : Expr} {scope : Scope} {k0 : Nat} {p0 p1 px gpos apos pos : Pos} {c : Addr} (hC : ∀ h, C.G.K.In h → CodeHd h c C.G.P) (hcd : C.cd = .ref c) (hq : ∀ (q : Pos) (o : Obj), q.line = gpos.line → q.col = gpos.col → (C.G.code q o ↔ codeOf (C.qual ++ "<genexpr>") o))
    (hl : sc.names.lookup (Str.ofString y) = some .local) (hd : (Str.ofString y == ("__debug__" : Str)) = false) (hco : scope.isCoroutine = false) (hclos : ∀ env, closureFor scope env = pure []) (hcell : ∀ y ∈ scope.names, y.2 ≠ .cell) (h0 : scope.names.lookup (".0" : Str) = some NameKind.local) (hx : scope.names.lookup (Str.ofString x) = some .local) (hkind : scope.kind = .function)
    (helt : EltFn C.G.prog C.G.w scope (Str.ofString x) elt dashed (fun t => t.length ≤ 1000)) (he : MethForm (.Constant (.str (Str.ofString sep)) k0 p0) "join" apos pos [.GeneratorExp elt [⟨.Name (Str.ofString x) px, .Name (Str.ofString y) p1, [], 0⟩] scope gpos]) :
    EV C sc (.Call (.Attribute (.Constant (.str (Str.ofString sep)) k0 p0) "join" apos) [.GeneratorExp elt [⟨.Name (Str.ofString x) px, .Name (Str.ofString y) p1, [], 0⟩] scope gpos] [] pos) (fun st Q => (wC (.str (sl sep))) st fun X st1 => ∃ x, X = .str x ∧ jGen y dashed (fun t => t.length ≤ 1000) x st1 Q) :=
  EV.methX (pl := plOf _) (a := wC (.str (sl sep))) (W := fun z => jGen y dashed (fun t => t.length ≤ 1000) z) EV.str PySem.F.slot_str_join PySem.F.type_str_join (fun env A s σ st z t Q hn hA I _ h => join_gen_args hl hd hcd hC hq hco hclos hcell h0 hx hkind helt env A s σ st z t Q hn hA I h) he (fun _ => rfl) (fun _ => rfl)
theorem codeHd_of {G : Gl} (g : GOk G) : ∀ h, G.K.In h → CodeHd h 66 G.P := by
  rw [g.P]
  exact fun h K => ⟨_, _, _, _, _, _, _, _, _, K 66 _ (K_of g rfl), rfl, rfl, rfl, rfl, rfl, rfl, rfl, rfl, by decide⟩
theorem patAt_of {G : Gl} (g : GOk G) : ∀ h, G.K.In h → PatAt h 41 := fun h K => ⟨_, _, _, _, _, _, _, _, _, K 41 _ (K_of g rfl), rfl, rfl, rfl, K 40 _ (K_of g rfl), rfl, by decide +kernel⟩
theorem specAt_of {G : Gl} (g : GOk G) : ∀ h, G.K.In h → SpecAt h 50 specials := fun h K => ⟨by decide, _, _, K 50 _ (K_of g rfl), by decide +kernel⟩
end

theorem call_parse (C : Cx) (hG : GOk C.G) (hd' : 1 ≤ C.d) : CallOk C (.ref 36) wparse_http_list := by
  have D : DefAt C 36 _ ["s"] _ _ := ⟨⟨_, K_of hG rfl, rfl⟩, rfl, rfl, rfl, rfl, rfl, rfl, rfl, rfl, ⟨_, _, _, _, rfl, K_of hG rfl, rfl, rfl⟩, one_bind (fun v => rfl), by decide, by decide⟩
  dsimp only at D
  refine CallOk.def D (d' := 0) (by omega) (by decide) ?_
  intro C' h1 h2 h3 h4 h5 h6
  have hG' : GOk C'.G := h1 ▸ hG
  unfold bparse_http_list wparse_http_list_for1
  repeat (any_goals (first | with_reducible exact EX.nil | with_reducible refine EX.cons ?_ ?_ | with_reducible exact ES.brk | with_reducible exact ES.cont | with_reducible refine ES.ite ?_ ?_ ?_ | with_reducible refine ES.assert ?_ | with_reducible refine ES.while ?_ ?_ | with_reducible refine ES.ret ?_ | with_reducible refine ES.del ?_ ?_ | ((with_reducible refine ES.assign ?_ ?_ ?_); rotate_left 1; (rfl); (intros; rfl)) | ((with_reducible refine ES.assign2 ?_ ?_ ?_ ?_); rotate_left 1; (rfl); (rfl); (intros; rfl)) | ((with_reducible refine ES.pair ?_ ?_ ?_ ?_ ?_ ?_ ?_); rotate_left 1; rotate_left 1; (rfl); (rfl); (intros; rfl); (intros; rfl); (intro env he; unfold swappedStores Env.kindOf Env.blockKind; rw [he.esc]; rfl)) | ((with_reducible refine ES.setItem ?_ ?_ ?_ ?_); rotate_left 1; rotate_left 1; rotate_left 1; (intros; rfl)) | ((with_reducible refine ES.aug ?_ ?_); rotate_left 1; (rfl)) | ((with_reducible refine ES.augItem ?_ ?_ ?_ ?_); rotate_left 1; rotate_left 1; rotate_left 1; (intros; rfl)) | ((with_reducible refine ES.expr ?_ ?_ ?_); rotate_left 1; (exact fun _ h => notInteractive h); (intros; rfl)) | ((with_reducible refine ES.for ?_ ?_ (fun I o => ?_) ?_); rotate_left 1; (rfl); rotate_left 1; (intros; rfl)) | ((with_reducible refine EV.name ?_ ?_); (rfl); (decide +kernel)) | with_reducible exact EV.int | with_reducible exact EV.str | with_reducible exact EV.bool | with_reducible exact EV.nothing | with_reducible exact EV.neg | with_reducible refine EV.bin ?_ ?_ | with_reducible refine EV.ite ?_ ?_ ?_ | with_reducible refine EV.list ?_ | with_reducible refine EV.slice ?_ ?_ ?_ | ((with_reducible refine EV.item ?_ ?_ ?_); rotate_left 1; rotate_left 1; (intros; rfl)) | ((with_reducible refine EV.fstr3 ?_ ?_); rotate_left 1; (decide +kernel)) | with_reducible exact EL.nil | ((with_reducible refine EL.cons ?_ ?_ ?_); rotate_left 1; rotate_left 1; (intros; rfl)) | with_reducible exact EP.no | with_reducible refine EP.so ?_ | with_reducible refine EB.not ?_ | with_reducible refine EB.and ?_ ?_ | with_reducible refine EB.or ?_ ?_ | ((with_reducible refine EB.cmp ?_ ?_ ?_); rotate_left 1; rotate_left 1; (rfl)) | ((with_reducible refine EB.ne ?_ ?_ ?_); rotate_left 1; rotate_left 1; (rfl)) | ((with_reducible refine EB.neD ?_ ?_ ?_); rotate_left 1; rotate_left 1; (rfl)) | ((with_reducible refine EB.notIn ?_ ?_ ?_); (rfl); rotate_left 1; (rfl)) | with_reducible refine EB.inTwo ?_ | ((with_reducible refine EB.val ?_ ?_); rotate_left 1; (intros; rfl)) | ((with_reducible refine EV.methL_ slot_list_append F.type_list_append CallOk.append ?_ ?_ ?_ ?_ ?_); rotate_left 1; rotate_left 1; (intro env; rfl); (intro env; rfl); (intro env; rfl)) | ((with_reducible refine EV.methS0_ F.slot_str_strip F.type_str_strip CallOk.strip ?_ ?_); rotate_left 1; (intro env; rfl)) | ((with_reducible refine EV.methS_ F.slot_str_find F.type_str_find CallOk.find ?_ ?_ ?_ ?_ ?_); rotate_left 1; rotate_left 1; (intro env; rfl); (intro env; rfl); (intro env; rfl)) | ((with_reducible refine EV.methS_ F.slot_str_join F.type_str_join CallOk.join ?_ ?_ ?_ ?_ ?_); rotate_left 1; rotate_left 1; (intro env; rfl); (intro env; rfl); (intro env; rfl)) | ((with_reducible refine EV.repl_ ?_ ?_ ?_ ?_); rotate_left 1; (rfl); (decide +kernel); (intro env; rfl)) | ((with_reducible refine EV.app ?_ ?_); (rfl); (decide +kernel)) | ((with_reducible refine EV.add ?_ ?_ ?_ ?_ ?_); (rfl); (decide +kernel); rotate_left 1; (intros; rfl); (intros; rfl)) | ((with_reducible refine EV.comp ?_ (fun C2 g1 g2 g3 g4 g5 g6 => ?_) ?_ ?_ ?_ ?_ ?_); rotate_left 1; rotate_left 1; (rfl); (rfl); (decide +kernel); (rfl); (intros; rfl)) | ((with_reducible refine EV.callBlt CallOk.len boot_len ?_ ?_ ?_ ?_ ?_ ?_ ?_); (exact GOk.b (by first | assumption | simp only [*]) "len" (by decide)); (rfl); (decide +kernel); (decide +kernel); rotate_left 1; (intro env; rfl); (intro env; rfl)) | ((with_reducible refine EV.callBlt CallOk.chr boot_chr ?_ ?_ ?_ ?_ ?_ ?_ ?_); (exact GOk.b (by first | assumption | simp only [*]) "chr" (by decide)); (rfl); (decide +kernel); (decide +kernel); rotate_left 1; (intro env; rfl); (intro env; rfl))))
theorem call_law_sign (C : Cx) (hG : GOk C.G) (hd' : 1 ≤ C.d) : CallOk C (.ref 81) w_law_sign := by
  have D : DefAt C 81 _ ["number"] _ _ := ⟨⟨_, K_of hG rfl, rfl⟩, rfl, rfl, rfl, rfl, rfl, rfl, rfl, rfl, ⟨_, _, _, _, rfl, K_of hG rfl, rfl, rfl⟩, one_bind (fun v => rfl), by decide, by decide⟩
  dsimp only at D
  refine CallOk.def D (d' := 0) (by omega) (by decide) ?_
  intro C' h1 h2 h3 h4 h5 h6
  have hG' : GOk C'.G := h1 ▸ hG
  unfold b_law_sign
  repeat (any_goals (first | with_reducible exact EX.nil | with_reducible refine EX.cons ?_ ?_ | with_reducible exact ES.brk | with_reducible exact ES.cont | with_reducible refine ES.ite ?_ ?_ ?_ | with_reducible refine ES.assert ?_ | with_reducible refine ES.while ?_ ?_ | with_reducible refine ES.ret ?_ | with_reducible refine ES.del ?_ ?_ | ((with_reducible refine ES.assign ?_ ?_ ?_); rotate_left 1; (rfl); (intros; rfl)) | ((with_reducible refine ES.assign2 ?_ ?_ ?_ ?_); rotate_left 1; (rfl); (rfl); (intros; rfl)) | ((with_reducible refine ES.pair ?_ ?_ ?_ ?_ ?_ ?_ ?_); rotate_left 1; rotate_left 1; (rfl); (rfl); (intros; rfl); (intros; rfl); (intro env he; unfold swappedStores Env.kindOf Env.blockKind; rw [he.esc]; rfl)) | ((with_reducible refine ES.setItem ?_ ?_ ?_ ?_); rotate_left 1; rotate_left 1; rotate_left 1; (intros; rfl)) | ((with_reducible refine ES.aug ?_ ?_); rotate_left 1; (rfl)) | ((with_reducible refine ES.augItem ?_ ?_ ?_ ?_); rotate_left 1; rotate_left 1; rotate_left 1; (intros; rfl)) | ((with_reducible refine ES.expr ?_ ?_ ?_); rotate_left 1; (exact fun _ h => notInteractive h); (intros; rfl)) | ((with_reducible refine ES.for ?_ ?_ (fun I o => ?_) ?_); rotate_left 1; (rfl); rotate_left 1; (intros; rfl)) | ((with_reducible refine EV.name ?_ ?_); (rfl); (decide +kernel)) | with_reducible exact EV.int | with_reducible exact EV.str | with_reducible exact EV.bool | with_reducible exact EV.nothing | with_reducible exact EV.neg | with_reducible refine EV.bin ?_ ?_ | with_reducible refine EV.ite ?_ ?_ ?_ | with_reducible refine EV.list ?_ | with_reducible refine EV.slice ?_ ?_ ?_ | ((with_reducible refine EV.item ?_ ?_ ?_); rotate_left 1; rotate_left 1; (intros; rfl)) | ((with_reducible refine EV.fstr3 ?_ ?_); rotate_left 1; (decide +kernel)) | with_reducible exact EL.nil | ((with_reducible refine EL.cons ?_ ?_ ?_); rotate_left 1; rotate_left 1; (intros; rfl)) | with_reducible exact EP.no | with_reducible refine EP.so ?_ | with_reducible refine EB.not ?_ | with_reducible refine EB.and ?_ ?_ | with_reducible refine EB.or ?_ ?_ | ((with_reducible refine EB.cmp ?_ ?_ ?_); rotate_left 1; rotate_left 1; (rfl)) | ((with_reducible refine EB.ne ?_ ?_ ?_); rotate_left 1; rotate_left 1; (rfl)) | ((with_reducible refine EB.neD ?_ ?_ ?_); rotate_left 1; rotate_left 1; (rfl)) | ((with_reducible refine EB.notIn ?_ ?_ ?_); (rfl); rotate_left 1; (rfl)) | with_reducible refine EB.inTwo ?_ | ((with_reducible refine EB.val ?_ ?_); rotate_left 1; (intros; rfl)) | ((with_reducible refine EV.methL_ slot_list_append F.type_list_append CallOk.append ?_ ?_ ?_ ?_ ?_); rotate_left 1; rotate_left 1; (intro env; rfl); (intro env; rfl); (intro env; rfl)) | ((with_reducible refine EV.methS0_ F.slot_str_strip F.type_str_strip CallOk.strip ?_ ?_); rotate_left 1; (intro env; rfl)) | ((with_reducible refine EV.methS_ F.slot_str_find F.type_str_find CallOk.find ?_ ?_ ?_ ?_ ?_); rotate_left 1; rotate_left 1; (intro env; rfl); (intro env; rfl); (intro env; rfl)) | ((with_reducible refine EV.methS_ F.slot_str_join F.type_str_join CallOk.join ?_ ?_ ?_ ?_ ?_); rotate_left 1; rotate_left 1; (intro env; rfl); (intro env; rfl); (intro env; rfl)) | ((with_reducible refine EV.repl_ ?_ ?_ ?_ ?_); rotate_left 1; (rfl); (decide +kernel); (intro env; rfl)) | ((with_reducible refine EV.app ?_ ?_); (rfl); (decide +kernel)) | ((with_reducible refine EV.add ?_ ?_ ?_ ?_ ?_); (rfl); (decide +kernel); rotate_left 1; (intros; rfl); (intros; rfl)) | ((with_reducible refine EV.comp ?_ (fun C2 g1 g2 g3 g4 g5 g6 => ?_) ?_ ?_ ?_ ?_ ?_); rotate_left 1; rotate_left 1; (rfl); (rfl); (decide +kernel); (rfl); (intros; rfl)) | ((with_reducible refine EV.callBlt CallOk.len boot_len ?_ ?_ ?_ ?_ ?_ ?_ ?_); (exact GOk.b (by first | assumption | simp only [*]) "len" (by decide)); (rfl); (decide +kernel); (decide +kernel); rotate_left 1; (intro env; rfl); (intro env; rfl)) | ((with_reducible refine EV.callBlt CallOk.chr boot_chr ?_ ?_ ?_ ?_ ?_ ?_ ?_); (exact GOk.b (by first | assumption | simp only [*]) "chr" (by decide)); (rfl); (decide +kernel); (decide +kernel); rotate_left 1; (intro env; rfl); (intro env; rfl))))
theorem call_law_bracket (C : Cx) (hG : GOk C.G) (hd' : 1 ≤ C.d) : CallOk C (.ref 88) w_law_bracket := by
  have D : DefAt C 88 _ ["kept", "signs"] _ _ := ⟨⟨_, K_of hG rfl, rfl⟩, rfl, rfl, rfl, rfl, rfl, rfl, rfl, rfl, ⟨_, _, _, _, rfl, K_of hG rfl, rfl, rfl⟩, two_bind (fun v w => rfl), by decide, by decide⟩
  dsimp only at D
  refine CallOk.def D (d' := 0) (by omega) (by decide) ?_
  intro C' h1 h2 h3 h4 h5 h6
  have hG' : GOk C'.G := h1 ▸ hG
  unfold b_law_bracket w_law_bracket_while1
  repeat (any_goals (first | with_reducible exact EX.nil | with_reducible refine EX.cons ?_ ?_ | with_reducible exact ES.brk | with_reducible exact ES.cont | with_reducible refine ES.ite ?_ ?_ ?_ | with_reducible refine ES.assert ?_ | with_reducible refine ES.while ?_ ?_ | with_reducible refine ES.ret ?_ | with_reducible refine ES.del ?_ ?_ | ((with_reducible refine ES.assign ?_ ?_ ?_); rotate_left 1; (rfl); (intros; rfl)) | ((with_reducible refine ES.assign2 ?_ ?_ ?_ ?_); rotate_left 1; (rfl); (rfl); (intros; rfl)) | ((with_reducible refine ES.pair ?_ ?_ ?_ ?_ ?_ ?_ ?_); rotate_left 1; rotate_left 1; (rfl); (rfl); (intros; rfl); (intros; rfl); (intro env he; unfold swappedStores Env.kindOf Env.blockKind; rw [he.esc]; rfl)) | ((with_reducible refine ES.setItem ?_ ?_ ?_ ?_); rotate_left 1; rotate_left 1; rotate_left 1; (intros; rfl)) | ((with_reducible refine ES.aug ?_ ?_); rotate_left 1; (rfl)) | ((with_reducible refine ES.augItem ?_ ?_ ?_ ?_); rotate_left 1; rotate_left 1; rotate_left 1; (intros; rfl)) | ((with_reducible refine ES.expr ?_ ?_ ?_); rotate_left 1; (exact fun _ h => notInteractive h); (intros; rfl)) | ((with_reducible refine ES.for ?_ ?_ (fun I o => ?_) ?_); rotate_left 1; (rfl); rotate_left 1; (intros; rfl)) | ((with_reducible refine EV.name ?_ ?_); (rfl); (decide +kernel)) | with_reducible exact EV.int | with_reducible exact EV.str | with_reducible exact EV.bool | with_reducible exact EV.nothing | with_reducible exact EV.neg | with_reducible refine EV.bin ?_ ?_ | with_reducible refine EV.ite ?_ ?_ ?_ | with_reducible refine EV.list ?_ | with_reducible refine EV.slice ?_ ?_ ?_ | ((with_reducible refine EV.item ?_ ?_ ?_); rotate_left 1; rotate_left 1; (intros; rfl)) | ((with_reducible refine EV.fstr3 ?_ ?_); rotate_left 1; (decide +kernel)) | with_reducible exact EL.nil | ((with_reducible refine EL.cons ?_ ?_ ?_); rotate_left 1; rotate_left 1; (intros; rfl)) | with_reducible exact EP.no | with_reducible refine EP.so ?_ | with_reducible refine EB.not ?_ | with_reducible refine EB.and ?_ ?_ | with_reducible refine EB.or ?_ ?_ | ((with_reducible refine EB.cmp ?_ ?_ ?_); rotate_left 1; rotate_left 1; (rfl)) | ((with_reducible refine EB.ne ?_ ?_ ?_); rotate_left 1; rotate_left 1; (rfl)) | ((with_reducible refine EB.neD ?_ ?_ ?_); rotate_left 1; rotate_left 1; (rfl)) | ((with_reducible refine EB.notIn ?_ ?_ ?_); (rfl); rotate_left 1; (rfl)) | with_reducible refine EB.inTwo ?_ | ((with_reducible refine EB.val ?_ ?_); rotate_left 1; (intros; rfl)) | ((with_reducible refine EV.methL_ slot_list_append F.type_list_append CallOk.append ?_ ?_ ?_ ?_ ?_); rotate_left 1; rotate_left 1; (intro env; rfl); (intro env; rfl); (intro env; rfl)) | ((with_reducible refine EV.methS0_ F.slot_str_strip F.type_str_strip CallOk.strip ?_ ?_); rotate_left 1; (intro env; rfl)) | ((with_reducible refine EV.methS_ F.slot_str_find F.type_str_find CallOk.find ?_ ?_ ?_ ?_ ?_); rotate_left 1; rotate_left 1; (intro env; rfl); (intro env; rfl); (intro env; rfl)) | ((with_reducible refine EV.methS_ F.slot_str_join F.type_str_join CallOk.join ?_ ?_ ?_ ?_ ?_); rotate_left 1; rotate_left 1; (intro env; rfl); (intro env; rfl); (intro env; rfl)) | ((with_reducible refine EV.repl_ ?_ ?_ ?_ ?_); rotate_left 1; (rfl); (decide +kernel); (intro env; rfl)) | ((with_reducible refine EV.app ?_ ?_); (rfl); (decide +kernel)) | ((with_reducible refine EV.add ?_ ?_ ?_ ?_ ?_); (rfl); (decide +kernel); rotate_left 1; (intros; rfl); (intros; rfl)) | ((with_reducible refine EV.comp ?_ (fun C2 g1 g2 g3 g4 g5 g6 => ?_) ?_ ?_ ?_ ?_ ?_); rotate_left 1; rotate_left 1; (rfl); (rfl); (decide +kernel); (rfl); (intros; rfl)) | ((with_reducible refine EV.callBlt CallOk.len boot_len ?_ ?_ ?_ ?_ ?_ ?_ ?_); (exact GOk.b (by first | assumption | simp only [*]) "len" (by decide)); (rfl); (decide +kernel); (decide +kernel); rotate_left 1; (intro env; rfl); (intro env; rfl)) | ((with_reducible refine EV.callBlt CallOk.chr boot_chr ?_ ?_ ?_ ?_ ?_ ?_ ?_); (exact GOk.b (by first | assumption | simp only [*]) "chr" (by decide)); (rfl); (decide +kernel); (decide +kernel); rotate_left 1; (intro env; rfl); (intro env; rfl))))
theorem call_join (C : Cx) (hG : GOk C.G) (hd' : 1 ≤ C.d) : CallOk C (.ref 74) w_join_translated_parts := by
  have D : DefAt C 74 _ ["inp", "STAR"] _ _ := ⟨⟨_, K_of hG rfl, rfl⟩, rfl, rfl, rfl, rfl, rfl, rfl, rfl, rfl, ⟨_, _, _, _, rfl, K_of hG rfl, rfl, rfl⟩, two_bind (fun v w => rfl), by decide, by decide⟩
  dsimp only at D
  refine CallOk.def D (d' := 0) (by omega) (by decide) ?_
  intro C' h1 h2 h3 h4 h5 h6
  have hG' : GOk C'.G := h1 ▸ hG
  unfold b_join_translated_parts w_join_translated_parts_while1 w_join_translated_parts_while2 w_join_translated_parts_while3
  repeat (any_goals (first | with_reducible exact EX.nil | with_reducible refine EX.cons ?_ ?_ | with_reducible exact ES.brk | with_reducible exact ES.cont | with_reducible refine ES.ite ?_ ?_ ?_ | with_reducible refine ES.assert ?_ | with_reducible refine ES.while ?_ ?_ | with_reducible refine ES.ret ?_ | with_reducible refine ES.del ?_ ?_ | ((with_reducible refine ES.assign ?_ ?_ ?_); rotate_left 1; (rfl); (intros; rfl)) | ((with_reducible refine ES.assign2 ?_ ?_ ?_ ?_); rotate_left 1; (rfl); (rfl); (intros; rfl)) | ((with_reducible refine ES.pair ?_ ?_ ?_ ?_ ?_ ?_ ?_); rotate_left 1; rotate_left 1; (rfl); (rfl); (intros; rfl); (intros; rfl); (intro env he; unfold swappedStores Env.kindOf Env.blockKind; rw [he.esc]; rfl)) | ((with_reducible refine ES.setItem ?_ ?_ ?_ ?_); rotate_left 1; rotate_left 1; rotate_left 1; (intros; rfl)) | ((with_reducible refine ES.aug ?_ ?_); rotate_left 1; (rfl)) | ((with_reducible refine ES.augItem ?_ ?_ ?_ ?_); rotate_left 1; rotate_left 1; rotate_left 1; (intros; rfl)) | ((with_reducible refine ES.expr ?_ ?_ ?_); rotate_left 1; (exact fun _ h => notInteractive h); (intros; rfl)) | ((with_reducible refine ES.for ?_ ?_ (fun I o => ?_) ?_); rotate_left 1; (rfl); rotate_left 1; (intros; rfl)) | ((with_reducible refine EV.name ?_ ?_); (rfl); (decide +kernel)) | with_reducible exact EV.int | with_reducible exact EV.str | with_reducible exact EV.bool | with_reducible exact EV.nothing | with_reducible exact EV.neg | with_reducible refine EV.bin ?_ ?_ | with_reducible refine EV.ite ?_ ?_ ?_ | with_reducible refine EV.list ?_ | with_reducible refine EV.slice ?_ ?_ ?_ | ((with_reducible refine EV.item ?_ ?_ ?_); rotate_left 1; rotate_left 1; (intros; rfl)) | ((with_reducible refine EV.fstr3 ?_ ?_); rotate_left 1; (decide +kernel)) | with_reducible exact EL.nil | ((with_reducible refine EL.cons ?_ ?_ ?_); rotate_left 1; rotate_left 1; (intros; rfl)) | with_reducible exact EP.no | with_reducible refine EP.so ?_ | with_reducible refine EB.not ?_ | with_reducible refine EB.and ?_ ?_ | with_reducible refine EB.or ?_ ?_ | ((with_reducible refine EB.cmp ?_ ?_ ?_); rotate_left 1; rotate_left 1; (rfl)) | ((with_reducible refine EB.ne ?_ ?_ ?_); rotate_left 1; rotate_left 1; (rfl)) | ((with_reducible refine EB.neD ?_ ?_ ?_); rotate_left 1; rotate_left 1; (rfl)) | ((with_reducible refine EB.notIn ?_ ?_ ?_); (rfl); rotate_left 1; (rfl)) | with_reducible refine EB.inTwo ?_ | ((with_reducible refine EB.val ?_ ?_); rotate_left 1; (intros; rfl)) | ((with_reducible refine EV.methL_ slot_list_append F.type_list_append CallOk.append ?_ ?_ ?_ ?_ ?_); rotate_left 1; rotate_left 1; (intro env; rfl); (intro env; rfl); (intro env; rfl)) | ((with_reducible refine EV.methS0_ F.slot_str_strip F.type_str_strip CallOk.strip ?_ ?_); rotate_left 1; (intro env; rfl)) | ((with_reducible refine EV.methS_ F.slot_str_find F.type_str_find CallOk.find ?_ ?_ ?_ ?_ ?_); rotate_left 1; rotate_left 1; (intro env; rfl); (intro env; rfl); (intro env; rfl)) | ((with_reducible refine EV.methS_ F.slot_str_join F.type_str_join CallOk.join ?_ ?_ ?_ ?_ ?_); rotate_left 1; rotate_left 1; (intro env; rfl); (intro env; rfl); (intro env; rfl)) | ((with_reducible refine EV.repl_ ?_ ?_ ?_ ?_); rotate_left 1; (rfl); (decide +kernel); (intro env; rfl)) | ((with_reducible refine EV.app ?_ ?_); (rfl); (decide +kernel)) | ((with_reducible refine EV.add ?_ ?_ ?_ ?_ ?_); (rfl); (decide +kernel); rotate_left 1; (intros; rfl); (intros; rfl)) | ((with_reducible refine EV.comp ?_ (fun C2 g1 g2 g3 g4 g5 g6 => ?_) ?_ ?_ ?_ ?_ ?_); rotate_left 1; rotate_left 1; (rfl); (rfl); (decide +kernel); (rfl); (intros; rfl)) | ((with_reducible refine EV.callBlt CallOk.len boot_len ?_ ?_ ?_ ?_ ?_ ?_ ?_); (exact GOk.b (by first | assumption | simp only [*]) "len" (by decide)); (rfl); (decide +kernel); (decide +kernel); rotate_left 1; (intro env; rfl); (intro env; rfl)) | ((with_reducible refine EV.callBlt CallOk.chr boot_chr ?_ ?_ ?_ ?_ ?_ ?_ ?_); (exact GOk.b (by first | assumption | simp only [*]) "chr" (by decide)); (rfl); (decide +kernel); (decide +kernel); rotate_left 1; (intro env; rfl); (intro env; rfl))))

theorem call_escape (C : Cx) (hG : GOk C.G) (hd' : 1 ≤ C.d) : CallOk C (.ref 60) wescape := by
  have D : DefAt C 60 _ ["pattern"] _ _ := ⟨⟨_, K_of hG rfl, rfl⟩, rfl, rfl, rfl, rfl, rfl, rfl, rfl, rfl, ⟨_, _, _, _, rfl, K_of hG rfl, rfl, rfl⟩, one_bind (fun v => rfl), by decide, by decide⟩
  dsimp only at D
  refine CallOk.def D (d' := 0) (by omega) (by decide) ?_
  intro C' h1 h2 h3 h4 h5 h6
  have hG' : GOk C'.G := h1 ▸ hG
  unfold bescape
  refine EX.cons (ES.ite (EB.val (EV.isStr rfl (by decide +kernel) rfl rfl (hG'.b "isinstance" (by decide)) (hG'.b "str" (by decide))) (by intros; rfl)) ?_ EX.no) EX.nil
  refine EX.cons (ES.ret (EV.trans_ (specAt_of hG') (hG'.g ("_special_chars_map", 50) (by decide)) rfl (by decide +kernel) rfl (by decide +kernel) (by intro env; rfl))) EX.nil


theorem call_law_items (C : Cx) (hG : GOk C.G) (hd' : 2 ≤ C.d) : CallOk C (.ref 95) w_law_items := by
  have D : DefAt C 95 _ ["pattern"] _ _ := ⟨⟨_, K_of hG rfl, rfl⟩, rfl, rfl, rfl, rfl, rfl, rfl, rfl, rfl, ⟨_, _, _, _, rfl, K_of hG rfl, rfl, rfl⟩, one_bind (fun v => rfl), by decide, by decide⟩
  dsimp only at D
  refine CallOk.def D (d' := 1) (by omega) (by decide) ?_
  intro C' h1 h2 h3 h4 h5 h6
  have hG' : GOk C'.G := h1 ▸ hG
  unfold b_law_items w_law_items_while1
  repeat (any_goals (first | (first | with_reducible exact EX.nil | with_reducible refine EX.cons ?_ ?_ | with_reducible exact ES.brk | with_reducible exact ES.cont | with_reducible refine ES.ite ?_ ?_ ?_ | with_reducible refine ES.assert ?_ | with_reducible refine ES.while ?_ ?_ | with_reducible refine ES.ret ?_ | with_reducible refine ES.del ?_ ?_ | ((with_reducible refine ES.assign ?_ ?_ ?_); rotate_left 1; (rfl); (intros; rfl)) | ((with_reducible refine ES.assign2 ?_ ?_ ?_ ?_); rotate_left 1; (rfl); (rfl); (intros; rfl)) | ((with_reducible refine ES.pair ?_ ?_ ?_ ?_ ?_ ?_ ?_); rotate_left 1; rotate_left 1; (rfl); (rfl); (intros; rfl); (intros; rfl); (intro env he; unfold swappedStores Env.kindOf Env.blockKind; rw [he.esc]; rfl)) | ((with_reducible refine ES.setItem ?_ ?_ ?_ ?_); rotate_left 1; rotate_left 1; rotate_left 1; (intros; rfl)) | ((with_reducible refine ES.aug ?_ ?_); rotate_left 1; (rfl)) | ((with_reducible refine ES.augItem ?_ ?_ ?_ ?_); rotate_left 1; rotate_left 1; rotate_left 1; (intros; rfl)) | ((with_reducible refine ES.expr ?_ ?_ ?_); rotate_left 1; (exact fun _ h => notInteractive h); (intros; rfl)) | ((with_reducible refine ES.for ?_ ?_ (fun I o => ?_) ?_); rotate_left 1; (rfl); rotate_left 1; (intros; rfl)) | ((with_reducible refine EV.name ?_ ?_); (rfl); (decide +kernel)) | with_reducible exact EV.int | with_reducible exact EV.str | with_reducible exact EV.bool | with_reducible exact EV.nothing | with_reducible exact EV.neg | with_reducible refine EV.bin ?_ ?_ | with_reducible refine EV.ite ?_ ?_ ?_ | with_reducible refine EV.list ?_ | with_reducible refine EV.slice ?_ ?_ ?_ | ((with_reducible refine EV.item ?_ ?_ ?_); rotate_left 1; rotate_left 1; (intros; rfl)) | ((with_reducible refine EV.fstr3 ?_ ?_); rotate_left 1; (decide +kernel)) | with_reducible exact EL.nil | ((with_reducible refine EL.cons ?_ ?_ ?_); rotate_left 1; rotate_left 1; (intros; rfl)) | with_reducible exact EP.no | with_reducible refine EP.so ?_ | with_reducible refine EB.not ?_ | with_reducible refine EB.and ?_ ?_ | with_reducible refine EB.or ?_ ?_ | ((with_reducible refine EB.cmp ?_ ?_ ?_); rotate_left 1; rotate_left 1; (rfl)) | ((with_reducible refine EB.ne ?_ ?_ ?_); rotate_left 1; rotate_left 1; (rfl)) | ((with_reducible refine EB.neD ?_ ?_ ?_); rotate_left 1; rotate_left 1; (rfl)) | ((with_reducible refine EB.notIn ?_ ?_ ?_); (rfl); rotate_left 1; (rfl)) | with_reducible refine EB.inTwo ?_ | ((with_reducible refine EB.val ?_ ?_); rotate_left 1; (intros; rfl)) | ((with_reducible refine EV.methL_ slot_list_append F.type_list_append CallOk.append ?_ ?_ ?_ ?_ ?_); rotate_left 1; rotate_left 1; (intro env; rfl); (intro env; rfl); (intro env; rfl)) | ((with_reducible refine EV.methS0_ F.slot_str_strip F.type_str_strip CallOk.strip ?_ ?_); rotate_left 1; (intro env; rfl)) | ((with_reducible refine EV.methS_ F.slot_str_find F.type_str_find CallOk.find ?_ ?_ ?_ ?_ ?_); rotate_left 1; rotate_left 1; (intro env; rfl); (intro env; rfl); (intro env; rfl)) | ((with_reducible refine EV.methS_ F.slot_str_join F.type_str_join CallOk.join ?_ ?_ ?_ ?_ ?_); rotate_left 1; rotate_left 1; (intro env; rfl); (intro env; rfl); (intro env; rfl)) | ((with_reducible refine EV.repl_ ?_ ?_ ?_ ?_); rotate_left 1; (rfl); (decide +kernel); (intro env; rfl)) | ((with_reducible refine EV.app ?_ ?_); (rfl); (decide +kernel)) | ((with_reducible refine EV.add ?_ ?_ ?_ ?_ ?_); (rfl); (decide +kernel); rotate_left 1; (intros; rfl); (intros; rfl)) | ((with_reducible refine EV.comp ?_ (fun C2 g1 g2 g3 g4 g5 g6 => ?_) ?_ ?_ ?_ ?_ ?_); rotate_left 1; rotate_left 1; (rfl); (rfl); (decide +kernel); (rfl); (intros; rfl)) | ((with_reducible refine EV.callBlt CallOk.len boot_len ?_ ?_ ?_ ?_ ?_ ?_ ?_); (exact GOk.b (by first | assumption | simp only [*]) "len" (by decide)); (rfl); (decide +kernel); (decide +kernel); rotate_left 1; (intro env; rfl); (intro env; rfl)) | ((with_reducible refine EV.callBlt CallOk.chr boot_chr ?_ ?_ ?_ ?_ ?_ ?_ ?_); (exact GOk.b (by first | assumption | simp only [*]) "chr" (by decide)); (rfl); (decide +kernel); (decide +kernel); rotate_left 1; (intro env; rfl); (intro env; rfl))) | (first | ((with_reducible refine EV.callOwn (call_parse _ ?_ ?_) ?_ ?_ ?_ ?_ ?_ ?_ ?_); (first | assumption | simp only [*]); (omega); (first | assumption | simp only [*]); (exact GOk.g (by first | assumption | simp only [*]) ("parse_http_list", 36) (by decide)); (exact ⟨_, _, rfl, rfl⟩); (rfl); (decide +kernel); rotate_left 1; (intro env; rfl)) | ((with_reducible refine EV.callOwn (call_escape _ ?_ ?_) ?_ ?_ ?_ ?_ ?_ ?_ ?_); (first | assumption | simp only [*]); (omega); (first | assumption | simp only [*]); (exact GOk.g (by first | assumption | simp only [*]) ("escape", 60) (by decide)); (exact ⟨_, _, rfl, rfl⟩); (rfl); (decide +kernel); rotate_left 1; (intro env; rfl)) | ((with_reducible refine EV.callOwn (call_law_sign _ ?_ ?_) ?_ ?_ ?_ ?_ ?_ ?_ ?_); (first | assumption | simp only [*]); (omega); (first | assumption | simp only [*]); (exact GOk.g (by first | assumption | simp only [*]) ("_law_sign", 81) (by decide)); (exact ⟨_, _, rfl, rfl⟩); (rfl); (decide +kernel); rotate_left 1; (intro env; rfl)) | ((with_reducible refine EV.callOwn (call_law_bracket _ ?_ ?_) ?_ ?_ ?_ ?_ ?_ ?_ ?_); (first | assumption | simp only [*]); (omega); (first | assumption | simp only [*]); (exact GOk.g (by first | assumption | simp only [*]) ("_law_bracket", 88) (by decide)); (exact ⟨_, _, rfl, rfl⟩); (rfl); (decide +kernel); rotate_left 1; (intro env; rfl)) | ((with_reducible refine EV.callOwn (call_join _ ?_ ?_) ?_ ?_ ?_ ?_ ?_ ?_ ?_); (first | assumption | simp only [*]); (omega); (first | assumption | simp only [*]); (exact GOk.g (by first | assumption | simp only [*]) ("_join_translated_parts", 74) (by decide)); (exact ⟨_, _, rfl, rfl⟩); (rfl); (decide +kernel); rotate_left 1; (intro env; rfl)))))
theorem call_translate0 (C : Cx) (hG : GOk C.G) (hd' : 2 ≤ C.d) : CallOk C (.ref 67) w_translate := by
  have D : DefAt C 67 _ ["pat", "STAR", "QUESTION_MARK"] _ _ := ⟨⟨_, K_of hG rfl, rfl⟩, rfl, rfl, rfl, rfl, rfl, rfl, rfl, rfl, ⟨_, _, _, _, rfl, K_of hG rfl, rfl, rfl⟩, three_bind (fun v w x => rfl), by decide, by decide⟩
  dsimp only at D
  refine CallOk.def D (d' := 1) (by omega) (by decide) ?_
  intro C' h1 h2 h3 h4 h5 h6
  have hG' : GOk C'.G := h1 ▸ hG
  unfold b_translate w_translate_while1 w_translate_for2 w_translate_while3 w_translate_while4
  repeat (any_goals (first | (first | with_reducible exact EX.nil | with_reducible refine EX.cons ?_ ?_ | with_reducible exact ES.brk | with_reducible exact ES.cont | with_reducible refine ES.ite ?_ ?_ ?_ | with_reducible refine ES.assert ?_ | with_reducible refine ES.while ?_ ?_ | with_reducible refine ES.ret ?_ | with_reducible refine ES.del ?_ ?_ | ((with_reducible refine ES.assign ?_ ?_ ?_); rotate_left 1; (rfl); (intros; rfl)) | ((with_reducible refine ES.assign2 ?_ ?_ ?_ ?_); rotate_left 1; (rfl); (rfl); (intros; rfl)) | ((with_reducible refine ES.pair ?_ ?_ ?_ ?_ ?_ ?_ ?_); rotate_left 1; rotate_left 1; (rfl); (rfl); (intros; rfl); (intros; rfl); (intro env he; unfold swappedStores Env.kindOf Env.blockKind; rw [he.esc]; rfl)) | ((with_reducible refine ES.setItem ?_ ?_ ?_ ?_); rotate_left 1; rotate_left 1; rotate_left 1; (intros; rfl)) | ((with_reducible refine ES.aug ?_ ?_); rotate_left 1; (rfl)) | ((with_reducible refine ES.augItem ?_ ?_ ?_ ?_); rotate_left 1; rotate_left 1; rotate_left 1; (intros; rfl)) | ((with_reducible refine ES.expr ?_ ?_ ?_); rotate_left 1; (exact fun _ h => notInteractive h); (intros; rfl)) | ((with_reducible refine ES.for ?_ ?_ (fun I o => ?_) ?_); rotate_left 1; (rfl); rotate_left 1; (intros; rfl)) | ((with_reducible refine EV.name ?_ ?_); (rfl); (decide +kernel)) | with_reducible exact EV.int | with_reducible exact EV.str | with_reducible exact EV.bool | with_reducible exact EV.nothing | with_reducible exact EV.neg | with_reducible refine EV.bin ?_ ?_ | with_reducible refine EV.ite ?_ ?_ ?_ | with_reducible refine EV.list ?_ | with_reducible refine EV.slice ?_ ?_ ?_ | ((with_reducible refine EV.item ?_ ?_ ?_); rotate_left 1; rotate_left 1; (intros; rfl)) | ((with_reducible refine EV.fstr3 ?_ ?_); rotate_left 1; (decide +kernel)) | with_reducible exact EL.nil | ((with_reducible refine EL.cons ?_ ?_ ?_); rotate_left 1; rotate_left 1; (intros; rfl)) | with_reducible exact EP.no | with_reducible refine EP.so ?_ | with_reducible refine EB.not ?_ | with_reducible refine EB.and ?_ ?_ | with_reducible refine EB.or ?_ ?_ | ((with_reducible refine EB.cmp ?_ ?_ ?_); rotate_left 1; rotate_left 1; (rfl)) | ((with_reducible refine EB.ne ?_ ?_ ?_); rotate_left 1; rotate_left 1; (rfl)) | ((with_reducible refine EB.neD ?_ ?_ ?_); rotate_left 1; rotate_left 1; (rfl)) | ((with_reducible refine EB.notIn ?_ ?_ ?_); (rfl); rotate_left 1; (rfl)) | with_reducible refine EB.inTwo ?_ | ((with_reducible refine EB.val ?_ ?_); rotate_left 1; (intros; rfl)) | ((with_reducible refine EV.methL_ slot_list_append F.type_list_append CallOk.append ?_ ?_ ?_ ?_ ?_); rotate_left 1; rotate_left 1; (intro env; rfl); (intro env; rfl); (intro env; rfl)) | ((with_reducible refine EV.methS0_ F.slot_str_strip F.type_str_strip CallOk.strip ?_ ?_); rotate_left 1; (intro env; rfl)) | ((with_reducible refine EV.methS_ F.slot_str_find F.type_str_find CallOk.find ?_ ?_ ?_ ?_ ?_); rotate_left 1; rotate_left 1; (intro env; rfl); (intro env; rfl); (intro env; rfl)) | ((with_reducible refine EV.methS_ F.slot_str_join F.type_str_join CallOk.join ?_ ?_ ?_ ?_ ?_); rotate_left 1; rotate_left 1; (intro env; rfl); (intro env; rfl); (intro env; rfl)) | ((with_reducible refine EV.repl_ ?_ ?_ ?_ ?_); rotate_left 1; (rfl); (decide +kernel); (intro env; rfl)) | ((with_reducible refine EV.app ?_ ?_); (rfl); (decide +kernel)) | ((with_reducible refine EV.add ?_ ?_ ?_ ?_ ?_); (rfl); (decide +kernel); rotate_left 1; (intros; rfl); (intros; rfl)) | ((with_reducible refine EV.comp ?_ (fun C2 g1 g2 g3 g4 g5 g6 => ?_) ?_ ?_ ?_ ?_ ?_); rotate_left 1; rotate_left 1; (rfl); (rfl); (decide +kernel); (rfl); (intros; rfl)) | ((with_reducible refine EV.callBlt CallOk.len boot_len ?_ ?_ ?_ ?_ ?_ ?_ ?_); (exact GOk.b (by first | assumption | simp only [*]) "len" (by decide)); (rfl); (decide +kernel); (decide +kernel); rotate_left 1; (intro env; rfl); (intro env; rfl)) | ((with_reducible refine EV.callBlt CallOk.chr boot_chr ?_ ?_ ?_ ?_ ?_ ?_ ?_); (exact GOk.b (by first | assumption | simp only [*]) "chr" (by decide)); (rfl); (decide +kernel); (decide +kernel); rotate_left 1; (intro env; rfl); (intro env; rfl))) | (first | ((with_reducible refine EV.callOwn (call_parse _ ?_ ?_) ?_ ?_ ?_ ?_ ?_ ?_ ?_); (first | assumption | simp only [*]); (omega); (first | assumption | simp only [*]); (exact GOk.g (by first | assumption | simp only [*]) ("parse_http_list", 36) (by decide)); (exact ⟨_, _, rfl, rfl⟩); (rfl); (decide +kernel); rotate_left 1; (intro env; rfl)) | ((with_reducible refine EV.callOwn (call_escape _ ?_ ?_) ?_ ?_ ?_ ?_ ?_ ?_ ?_); (first | assumption | simp only [*]); (omega); (first | assumption | simp only [*]); (exact GOk.g (by first | assumption | simp only [*]) ("escape", 60) (by decide)); (exact ⟨_, _, rfl, rfl⟩); (rfl); (decide +kernel); rotate_left 1; (intro env; rfl)) | ((with_reducible refine EV.callOwn (call_law_sign _ ?_ ?_) ?_ ?_ ?_ ?_ ?_ ?_ ?_); (first | assumption | simp only [*]); (omega); (first | assumption | simp only [*]); (exact GOk.g (by first | assumption | simp only [*]) ("_law_sign", 81) (by decide)); (exact ⟨_, _, rfl, rfl⟩); (rfl); (decide +kernel); rotate_left 1; (intro env; rfl)) | ((with_reducible refine EV.callOwn (call_law_bracket _ ?_ ?_) ?_ ?_ ?_ ?_ ?_ ?_ ?_); (first | assumption | simp only [*]); (omega); (first | assumption | simp only [*]); (exact GOk.g (by first | assumption | simp only [*]) ("_law_bracket", 88) (by decide)); (exact ⟨_, _, rfl, rfl⟩); (rfl); (decide +kernel); rotate_left 1; (intro env; rfl)) | ((with_reducible refine EV.callOwn (call_join _ ?_ ?_) ?_ ?_ ?_ ?_ ?_ ?_ ?_); (first | assumption | simp only [*]); (omega); (first | assumption | simp only [*]); (exact GOk.g (by first | assumption | simp only [*]) ("_join_translated_parts", 74) (by decide)); (exact ⟨_, _, rfl, rfl⟩); (rfl); (decide +kernel); rotate_left 1; (intro env; rfl))) | ((with_reducible refine ES.down ?x ?a (fun I o => ?y) ?b ?c ?d); (case a => rfl); (case b => rfl); (case c => exact GOk.b hG' "range" (by decide)); (case d => intro env; rfl))))
  · refine EV.joinG_ (codeHd_of hG') h3 ?_ rfl (by decide +kernel) rfl (fun env => closureFor_none (by decide)) (by decide) rfl rfl rfl ?_ (by intro env; rfl)
    · intro q o hl _
      rw [hG'.code, h4]
      show (if q.line = 90 then _ else _) ↔ _
      rw [hl]; exact Iff.rfl
    · exact elt_replace (pl1 := plOf _) (pl2 := plOf _) rfl (by decide +kernel) rfl (by decide +kernel) rfl rfl (by decide +kernel) (by decide +kernel) (by decide +kernel) (by intro env; rfl) (by intro env; rfl)
  · refine EV.sub_ (patAt_of hG') (codeHd_of hG') h3 (hG'.g ("_twin_re_1", 41) (by decide)) ?_ rfl (by decide +kernel) rfl (by decide +kernel) (by intro env; rfl) (fun env => closureFor_none (by decide)) ?_ (by intro env; rfl)
    · intro q o hl _
      rw [hG'.code, h4]
      show (if q.line = 90 then _ else _) ↔ _
      rw [hl]; exact Iff.rfl
    · exact fun cv pm => ⟨⟨_, _, _, _, _, _, _, _, _, _, _, rfl, plOf _, by intro env; rfl⟩, rfl, rfl, fun v => rfl⟩

theorem call_translate (C : Cx) (hG : GOk C.G) (hd' : 3 ≤ C.d) : CallOk C (.ref 48) wtranslate := by
  have D : DefAt C 48 _ ["pat"] _ _ := ⟨⟨_, K_of hG rfl, rfl⟩, rfl, rfl, rfl, rfl, rfl, rfl, rfl, rfl, ⟨_, _, _, _, rfl, K_of hG rfl, rfl, rfl⟩, one_bind (fun v => rfl), by decide, by decide⟩
  dsimp only at D
  refine CallOk.def D (d' := 2) (by omega) (by decide) ?_
  intro C' h1 h2 h3 h4 h5 h6
  have hG' : GOk C'.G := h1 ▸ hG
  unfold btranslate
  repeat (any_goals (first | (first | with_reducible exact EX.nil | with_reducible refine EX.cons ?_ ?_ | with_reducible exact ES.brk | with_reducible exact ES.cont | with_reducible refine ES.ite ?_ ?_ ?_ | with_reducible refine ES.assert ?_ | with_reducible refine ES.while ?_ ?_ | with_reducible refine ES.ret ?_ | with_reducible refine ES.del ?_ ?_ | ((with_reducible refine ES.assign ?_ ?_ ?_); rotate_left 1; (rfl); (intros; rfl)) | ((with_reducible refine ES.assign2 ?_ ?_ ?_ ?_); rotate_left 1; (rfl); (rfl); (intros; rfl)) | ((with_reducible refine ES.pair ?_ ?_ ?_ ?_ ?_ ?_ ?_); rotate_left 1; rotate_left 1; (rfl); (rfl); (intros; rfl); (intros; rfl); (intro env he; unfold swappedStores Env.kindOf Env.blockKind; rw [he.esc]; rfl)) | ((with_reducible refine ES.setItem ?_ ?_ ?_ ?_); rotate_left 1; rotate_left 1; rotate_left 1; (intros; rfl)) | ((with_reducible refine ES.aug ?_ ?_); rotate_left 1; (rfl)) | ((with_reducible refine ES.augItem ?_ ?_ ?_ ?_); rotate_left 1; rotate_left 1; rotate_left 1; (intros; rfl)) | ((with_reducible refine ES.expr ?_ ?_ ?_); rotate_left 1; (exact fun _ h => notInteractive h); (intros; rfl)) | ((with_reducible refine ES.for ?_ ?_ (fun I o => ?_) ?_); rotate_left 1; (rfl); rotate_left 1; (intros; rfl)) | ((with_reducible refine EV.name ?_ ?_); (rfl); (decide +kernel)) | with_reducible exact EV.int | with_reducible exact EV.str | with_reducible exact EV.bool | with_reducible exact EV.nothing | with_reducible exact EV.neg | with_reducible refine EV.bin ?_ ?_ | with_reducible refine EV.ite ?_ ?_ ?_ | with_reducible refine EV.list ?_ | with_reducible refine EV.slice ?_ ?_ ?_ | ((with_reducible refine EV.item ?_ ?_ ?_); rotate_left 1; rotate_left 1; (intros; rfl)) | ((with_reducible refine EV.fstr3 ?_ ?_); rotate_left 1; (decide +kernel)) | with_reducible exact EL.nil | ((with_reducible refine EL.cons ?_ ?_ ?_); rotate_left 1; rotate_left 1; (intros; rfl)) | with_reducible exact EP.no | with_reducible refine EP.so ?_ | with_reducible refine EB.not ?_ | with_reducible refine EB.and ?_ ?_ | with_reducible refine EB.or ?_ ?_ | ((with_reducible refine EB.cmp ?_ ?_ ?_); rotate_left 1; rotate_left 1; (rfl)) | ((with_reducible refine EB.ne ?_ ?_ ?_); rotate_left 1; rotate_left 1; (rfl)) | ((with_reducible refine EB.neD ?_ ?_ ?_); rotate_left 1; rotate_left 1; (rfl)) | ((with_reducible refine EB.notIn ?_ ?_ ?_); (rfl); rotate_left 1; (rfl)) | with_reducible refine EB.inTwo ?_ | ((with_reducible refine EB.val ?_ ?_); rotate_left 1; (intros; rfl)) | ((with_reducible refine EV.methL_ slot_list_append F.type_list_append CallOk.append ?_ ?_ ?_ ?_ ?_); rotate_left 1; rotate_left 1; (intro env; rfl); (intro env; rfl); (intro env; rfl)) | ((with_reducible refine EV.methS0_ F.slot_str_strip F.type_str_strip CallOk.strip ?_ ?_); rotate_left 1; (intro env; rfl)) | ((with_reducible refine EV.methS_ F.slot_str_find F.type_str_find CallOk.find ?_ ?_ ?_ ?_ ?_); rotate_left 1; rotate_left 1; (intro env; rfl); (intro env; rfl); (intro env; rfl)) | ((with_reducible refine EV.methS_ F.slot_str_join F.type_str_join CallOk.join ?_ ?_ ?_ ?_ ?_); rotate_left 1; rotate_left 1; (intro env; rfl); (intro env; rfl); (intro env; rfl)) | ((with_reducible refine EV.repl_ ?_ ?_ ?_ ?_); rotate_left 1; (rfl); (decide +kernel); (intro env; rfl)) | ((with_reducible refine EV.app ?_ ?_); (rfl); (decide +kernel)) | ((with_reducible refine EV.add ?_ ?_ ?_ ?_ ?_); (rfl); (decide +kernel); rotate_left 1; (intros; rfl); (intros; rfl)) | ((with_reducible refine EV.comp ?_ (fun C2 g1 g2 g3 g4 g5 g6 => ?_) ?_ ?_ ?_ ?_ ?_); rotate_left 1; rotate_left 1; (rfl); (rfl); (decide +kernel); (rfl); (intros; rfl)) | ((with_reducible refine EV.callBlt CallOk.len boot_len ?_ ?_ ?_ ?_ ?_ ?_ ?_); (exact GOk.b (by first | assumption | simp only [*]) "len" (by decide)); (rfl); (decide +kernel); (decide +kernel); rotate_left 1; (intro env; rfl); (intro env; rfl)) | ((with_reducible refine EV.callBlt CallOk.chr boot_chr ?_ ?_ ?_ ?_ ?_ ?_ ?_); (exact GOk.b (by first | assumption | simp only [*]) "chr" (by decide)); (rfl); (decide +kernel); (decide +kernel); rotate_left 1; (intro env; rfl); (intro env; rfl))) | (first | ((with_reducible refine EV.callOwn (call_parse _ ?_ ?_) ?_ ?_ ?_ ?_ ?_ ?_ ?_); (first | assumption | simp only [*]); (omega); (first | assumption | simp only [*]); (exact GOk.g (by first | assumption | simp only [*]) ("parse_http_list", 36) (by decide)); (exact ⟨_, _, rfl, rfl⟩); (rfl); (decide +kernel); rotate_left 1; (intro env; rfl)) | ((with_reducible refine EV.callOwn (call_escape _ ?_ ?_) ?_ ?_ ?_ ?_ ?_ ?_ ?_); (first | assumption | simp only [*]); (omega); (first | assumption | simp only [*]); (exact GOk.g (by first | assumption | simp only [*]) ("escape", 60) (by decide)); (exact ⟨_, _, rfl, rfl⟩); (rfl); (decide +kernel); rotate_left 1; (intro env; rfl)) | ((with_reducible refine EV.callOwn (call_law_sign _ ?_ ?_) ?_ ?_ ?_ ?_ ?_ ?_ ?_); (first | assumption | simp only [*]); (omega); (first | assumption | simp only [*]); (exact GOk.g (by first | assumption | simp only [*]) ("_law_sign", 81) (by decide)); (exact ⟨_, _, rfl, rfl⟩); (rfl); (decide +kernel); rotate_left 1; (intro env; rfl)) | ((with_reducible refine EV.callOwn (call_law_bracket _ ?_ ?_) ?_ ?_ ?_ ?_ ?_ ?_ ?_); (first | assumption | simp only [*]); (omega); (first | assumption | simp only [*]); (exact GOk.g (by first | assumption | simp only [*]) ("_law_bracket", 88) (by decide)); (exact ⟨_, _, rfl, rfl⟩); (rfl); (decide +kernel); rotate_left 1; (intro env; rfl)) | ((with_reducible refine EV.callOwn (call_join _ ?_ ?_) ?_ ?_ ?_ ?_ ?_ ?_ ?_); (first | assumption | simp only [*]); (omega); (first | assumption | simp only [*]); (exact GOk.g (by first | assumption | simp only [*]) ("_join_translated_parts", 74) (by decide)); (exact ⟨_, _, rfl, rfl⟩); (rfl); (decide +kernel); rotate_left 1; (intro env; rfl))) | (first | ((with_reducible refine EV.callOwn (call_translate0 _ ?_ ?_) ?_ ?_ ?_ ?_ ?_ ?_ ?_); (first | assumption | simp only [*]); (omega); (first | assumption | simp only [*]); (exact GOk.g (by first | assumption | simp only [*]) ("_translate", 67) (by decide)); (exact ⟨_, _, rfl, rfl⟩); (rfl); (decide +kernel); rotate_left 1; (intro env; rfl)) | ((with_reducible refine EV.callOwn (call_law_items _ ?_ ?_) ?_ ?_ ?_ ?_ ?_ ?_ ?_); (first | assumption | simp only [*]); (omega); (first | assumption | simp only [*]); (exact GOk.g (by first | assumption | simp only [*]) ("_law_items", 95) (by decide)); (exact ⟨_, _, rfl, rfl⟩); (rfl); (decide +kernel); rotate_left 1; (intro env; rfl))) | exact EV.callT0 (W := cObject) rfl (by decide +kernel) (hG'.b "object" (by decide)) boot_object (by decide +kernel) CallOk.object))
theorem call_law_due (C : Cx) (hG : GOk C.G) (hd' : 3 ≤ C.d) : CallOk C (.ref 100) w_law_due := by
  have D : DefAt C 100 _ ["pattern"] _ _ := ⟨⟨_, K_of hG rfl, rfl⟩, rfl, rfl, rfl, rfl, rfl, rfl, rfl, rfl, ⟨_, _, _, _, rfl, K_of hG rfl, rfl, rfl⟩, one_bind (fun v => rfl), by decide, by decide⟩
  dsimp only at D
  refine CallOk.def D (d' := 2) (by omega) (by decide) ?_
  intro C' h1 h2 h3 h4 h5 h6
  have hG' : GOk C'.G := h1 ▸ hG
  unfold b_law_due w_law_due_for1 w_law_due_for2
  repeat (any_goals (first | (first | with_reducible exact EX.nil | with_reducible refine EX.cons ?_ ?_ | with_reducible exact ES.brk | with_reducible exact ES.cont | with_reducible refine ES.ite ?_ ?_ ?_ | with_reducible refine ES.assert ?_ | with_reducible refine ES.while ?_ ?_ | with_reducible refine ES.ret ?_ | with_reducible refine ES.del ?_ ?_ | ((with_reducible refine ES.assign ?_ ?_ ?_); rotate_left 1; (rfl); (intros; rfl)) | ((with_reducible refine ES.assign2 ?_ ?_ ?_ ?_); rotate_left 1; (rfl); (rfl); (intros; rfl)) | ((with_reducible refine ES.pair ?_ ?_ ?_ ?_ ?_ ?_ ?_); rotate_left 1; rotate_left 1; (rfl); (rfl); (intros; rfl); (intros; rfl); (intro env he; unfold swappedStores Env.kindOf Env.blockKind; rw [he.esc]; rfl)) | ((with_reducible refine ES.setItem ?_ ?_ ?_ ?_); rotate_left 1; rotate_left 1; rotate_left 1; (intros; rfl)) | ((with_reducible refine ES.aug ?_ ?_); rotate_left 1; (rfl)) | ((with_reducible refine ES.augItem ?_ ?_ ?_ ?_); rotate_left 1; rotate_left 1; rotate_left 1; (intros; rfl)) | ((with_reducible refine ES.expr ?_ ?_ ?_); rotate_left 1; (exact fun _ h => notInteractive h); (intros; rfl)) | ((with_reducible refine ES.for ?_ ?_ (fun I o => ?_) ?_); rotate_left 1; (rfl); rotate_left 1; (intros; rfl)) | ((with_reducible refine EV.name ?_ ?_); (rfl); (decide +kernel)) | with_reducible exact EV.int | with_reducible exact EV.str | with_reducible exact EV.bool | with_reducible exact EV.nothing | with_reducible exact EV.neg | with_reducible refine EV.bin ?_ ?_ | with_reducible refine EV.ite ?_ ?_ ?_ | with_reducible refine EV.list ?_ | with_reducible refine EV.slice ?_ ?_ ?_ | ((with_reducible refine EV.item ?_ ?_ ?_); rotate_left 1; rotate_left 1; (intros; rfl)) | ((with_reducible refine EV.fstr3 ?_ ?_); rotate_left 1; (decide +kernel)) | with_reducible exact EL.nil | ((with_reducible refine EL.cons ?_ ?_ ?_); rotate_left 1; rotate_left 1; (intros; rfl)) | with_reducible exact EP.no | with_reducible refine EP.so ?_ | with_reducible refine EB.not ?_ | with_reducible refine EB.and ?_ ?_ | with_reducible refine EB.or ?_ ?_ | ((with_reducible refine EB.cmp ?_ ?_ ?_); rotate_left 1; rotate_left 1; (rfl)) | ((with_reducible refine EB.ne ?_ ?_ ?_); rotate_left 1; rotate_left 1; (rfl)) | ((with_reducible refine EB.neD ?_ ?_ ?_); rotate_left 1; rotate_left 1; (rfl)) | ((with_reducible refine EB.notIn ?_ ?_ ?_); (rfl); rotate_left 1; (rfl)) | with_reducible refine EB.inTwo ?_ | ((with_reducible refine EB.val ?_ ?_); rotate_left 1; (intros; rfl)) | ((with_reducible refine EV.methL_ slot_list_append F.type_list_append CallOk.append ?_ ?_ ?_ ?_ ?_); rotate_left 1; rotate_left 1; (intro env; rfl); (intro env; rfl); (intro env; rfl)) | ((with_reducible refine EV.methS0_ F.slot_str_strip F.type_str_strip CallOk.strip ?_ ?_); rotate_left 1; (intro env; rfl)) | ((with_reducible refine EV.methS_ F.slot_str_find F.type_str_find CallOk.find ?_ ?_ ?_ ?_ ?_); rotate_left 1; rotate_left 1; (intro env; rfl); (intro env; rfl); (intro env; rfl)) | ((with_reducible refine EV.methS_ F.slot_str_join F.type_str_join CallOk.join ?_ ?_ ?_ ?_ ?_); rotate_left 1; rotate_left 1; (intro env; rfl); (intro env; rfl); (intro env; rfl)) | ((with_reducible refine EV.repl_ ?_ ?_ ?_ ?_); rotate_left 1; (rfl); (decide +kernel); (intro env; rfl)) | ((with_reducible refine EV.app ?_ ?_); (rfl); (decide +kernel)) | ((with_reducible refine EV.add ?_ ?_ ?_ ?_ ?_); (rfl); (decide +kernel); rotate_left 1; (intros; rfl); (intros; rfl)) | ((with_reducible refine EV.comp ?_ (fun C2 g1 g2 g3 g4 g5 g6 => ?_) ?_ ?_ ?_ ?_ ?_); rotate_left 1; rotate_left 1; (rfl); (rfl); (decide +kernel); (rfl); (intros; rfl)) | ((with_reducible refine EV.callBlt CallOk.len boot_len ?_ ?_ ?_ ?_ ?_ ?_ ?_); (exact GOk.b (by first | assumption | simp only [*]) "len" (by decide)); (rfl); (decide +kernel); (decide +kernel); rotate_left 1; (intro env; rfl); (intro env; rfl)) | ((with_reducible refine EV.callBlt CallOk.chr boot_chr ?_ ?_ ?_ ?_ ?_ ?_ ?_); (exact GOk.b (by first | assumption | simp only [*]) "chr" (by decide)); (rfl); (decide +kernel); (decide +kernel); rotate_left 1; (intro env; rfl); (intro env; rfl))) | (first | ((with_reducible refine EV.callOwn (call_parse _ ?_ ?_) ?_ ?_ ?_ ?_ ?_ ?_ ?_); (first | assumption | simp only [*]); (omega); (first | assumption | simp only [*]); (exact GOk.g (by first | assumption | simp only [*]) ("parse_http_list", 36) (by decide)); (exact ⟨_, _, rfl, rfl⟩); (rfl); (decide +kernel); rotate_left 1; (intro env; rfl)) | ((with_reducible refine EV.callOwn (call_escape _ ?_ ?_) ?_ ?_ ?_ ?_ ?_ ?_ ?_); (first | assumption | simp only [*]); (omega); (first | assumption | simp only [*]); (exact GOk.g (by first | assumption | simp only [*]) ("escape", 60) (by decide)); (exact ⟨_, _, rfl, rfl⟩); (rfl); (decide +kernel); rotate_left 1; (intro env; rfl)) | ((with_reducible refine EV.callOwn (call_law_sign _ ?_ ?_) ?_ ?_ ?_ ?_ ?_ ?_ ?_); (first | assumption | simp only [*]); (omega); (first | assumption | simp only [*]); (exact GOk.g (by first | assumption | simp only [*]) ("_law_sign", 81) (by decide)); (exact ⟨_, _, rfl, rfl⟩); (rfl); (decide +kernel); rotate_left 1; (intro env; rfl)) | ((with_reducible refine EV.callOwn (call_law_bracket _ ?_ ?_) ?_ ?_ ?_ ?_ ?_ ?_ ?_); (first | assumption | simp only [*]); (omega); (first | assumption | simp only [*]); (exact GOk.g (by first | assumption | simp only [*]) ("_law_bracket", 88) (by decide)); (exact ⟨_, _, rfl, rfl⟩); (rfl); (decide +kernel); rotate_left 1; (intro env; rfl)) | ((with_reducible refine EV.callOwn (call_join _ ?_ ?_) ?_ ?_ ?_ ?_ ?_ ?_ ?_); (first | assumption | simp only [*]); (omega); (first | assumption | simp only [*]); (exact GOk.g (by first | assumption | simp only [*]) ("_join_translated_parts", 74) (by decide)); (exact ⟨_, _, rfl, rfl⟩); (rfl); (decide +kernel); rotate_left 1; (intro env; rfl))) | (first | ((with_reducible refine EV.callOwn (call_translate0 _ ?_ ?_) ?_ ?_ ?_ ?_ ?_ ?_ ?_); (first | assumption | simp only [*]); (omega); (first | assumption | simp only [*]); (exact GOk.g (by first | assumption | simp only [*]) ("_translate", 67) (by decide)); (exact ⟨_, _, rfl, rfl⟩); (rfl); (decide +kernel); rotate_left 1; (intro env; rfl)) | ((with_reducible refine EV.callOwn (call_law_items _ ?_ ?_) ?_ ?_ ?_ ?_ ?_ ?_ ?_); (first | assumption | simp only [*]); (omega); (first | assumption | simp only [*]); (exact GOk.g (by first | assumption | simp only [*]) ("_law_items", 95) (by decide)); (exact ⟨_, _, rfl, rfl⟩); (rfl); (decide +kernel); rotate_left 1; (intro env; rfl)))))

theorem call_law_told (C : Cx) (hG : GOk C.G) (hd' : 4 ≤ C.d) : CallOk C (.ref 105) w_law_told := by
  have D : DefAt C 105 _ ["pattern"] _ _ := ⟨⟨_, K_of hG rfl, rfl⟩, rfl, rfl, rfl, rfl, rfl, rfl, rfl, rfl, ⟨_, _, _, _, rfl, K_of hG rfl, rfl, rfl⟩, one_bind (fun v => rfl), by decide, by decide⟩
  dsimp only at D
  refine CallOk.defC (star := "star") D (d' := 3) (by omega) (fun n => rfl) ?_
  intro C' k h1 h2 h3 h4 h5 h6 h7
  have hG' : GOk C'.G := h1 ▸ hG
  have hci : C'.ci = fun y => if y = "star" then some C'.nb else none := by rw [h6, h5]
  unfold b_law_told
  repeat (any_goals (first | (first | ((with_reducible refine ES.cellN ?_ ?_ ?_ ?_); rotate_left 1; (rfl); (intros; rfl); (assumption)) | ((with_reducible refine EV.cellN ?_ ?_ ?_); (rfl); (decide +kernel); (first | assumption | (simp only [*]))) | ((refine ES.compCell ?_ ?_ ?_ (by assumption) ?_ (fun C2 g1 g2 g3 g4 g5 g6 => ?_) ?_ ?_ ?_ ?_); rotate_left 1; (rfl); (rfl); (assumption); rotate_left 1; (decide); (rfl); (intro env he; unfold swapsWith Env.kindOf Env.blockKind; rw [he.esc]; rfl); (intros; rfl))) | (first | with_reducible exact EX.nil | with_reducible refine EX.cons ?_ ?_ | with_reducible exact ES.brk | with_reducible exact ES.cont | with_reducible refine ES.ite ?_ ?_ ?_ | with_reducible refine ES.assert ?_ | with_reducible refine ES.while ?_ ?_ | with_reducible refine ES.ret ?_ | with_reducible refine ES.del ?_ ?_ | ((with_reducible refine ES.assign ?_ ?_ ?_); rotate_left 1; (rfl); (intros; rfl)) | ((with_reducible refine ES.assign2 ?_ ?_ ?_ ?_); rotate_left 1; (rfl); (rfl); (intros; rfl)) | ((with_reducible refine ES.pair ?_ ?_ ?_ ?_ ?_ ?_ ?_); rotate_left 1; rotate_left 1; (rfl); (rfl); (intros; rfl); (intros; rfl); (intro env he; unfold swappedStores Env.kindOf Env.blockKind; rw [he.esc]; rfl)) | ((with_reducible refine ES.setItem ?_ ?_ ?_ ?_); rotate_left 1; rotate_left 1; rotate_left 1; (intros; rfl)) | ((with_reducible refine ES.aug ?_ ?_); rotate_left 1; (rfl)) | ((with_reducible refine ES.augItem ?_ ?_ ?_ ?_); rotate_left 1; rotate_left 1; rotate_left 1; (intros; rfl)) | ((with_reducible refine ES.expr ?_ ?_ ?_); rotate_left 1; (exact fun _ h => notInteractive h); (intros; rfl)) | ((with_reducible refine ES.for ?_ ?_ (fun I o => ?_) ?_); rotate_left 1; (rfl); rotate_left 1; (intros; rfl)) | ((with_reducible refine EV.name ?_ ?_); (rfl); (decide +kernel)) | with_reducible exact EV.int | with_reducible exact EV.str | with_reducible exact EV.bool | with_reducible exact EV.nothing | with_reducible exact EV.neg | with_reducible refine EV.bin ?_ ?_ | with_reducible refine EV.ite ?_ ?_ ?_ | with_reducible refine EV.list ?_ | with_reducible refine EV.slice ?_ ?_ ?_ | ((with_reducible refine EV.item ?_ ?_ ?_); rotate_left 1; rotate_left 1; (intros; rfl)) | ((with_reducible refine EV.fstr3 ?_ ?_); rotate_left 1; (decide +kernel)) | with_reducible exact EL.nil | ((with_reducible refine EL.cons ?_ ?_ ?_); rotate_left 1; rotate_left 1; (intros; rfl)) | with_reducible exact EP.no | with_reducible refine EP.so ?_ | with_reducible refine EB.not ?_ | with_reducible refine EB.and ?_ ?_ | with_reducible refine EB.or ?_ ?_ | ((with_reducible refine EB.cmp ?_ ?_ ?_); rotate_left 1; rotate_left 1; (rfl)) | ((with_reducible refine EB.ne ?_ ?_ ?_); rotate_left 1; rotate_left 1; (rfl)) | ((with_reducible refine EB.neD ?_ ?_ ?_); rotate_left 1; rotate_left 1; (rfl)) | ((with_reducible refine EB.notIn ?_ ?_ ?_); (rfl); rotate_left 1; (rfl)) | with_reducible refine EB.inTwo ?_ | ((with_reducible refine EB.val ?_ ?_); rotate_left 1; (intros; rfl)) | ((with_reducible refine EV.methL_ slot_list_append F.type_list_append CallOk.append ?_ ?_ ?_ ?_ ?_); rotate_left 1; rotate_left 1; (intro env; rfl); (intro env; rfl); (intro env; rfl)) | ((with_reducible refine EV.methS0_ F.slot_str_strip F.type_str_strip CallOk.strip ?_ ?_); rotate_left 1; (intro env; rfl)) | ((with_reducible refine EV.methS_ F.slot_str_find F.type_str_find CallOk.find ?_ ?_ ?_ ?_ ?_); rotate_left 1; rotate_left 1; (intro env; rfl); (intro env; rfl); (intro env; rfl)) | ((with_reducible refine EV.methS_ F.slot_str_join F.type_str_join CallOk.join ?_ ?_ ?_ ?_ ?_); rotate_left 1; rotate_left 1; (intro env; rfl); (intro env; rfl); (intro env; rfl)) | ((with_reducible refine EV.repl_ ?_ ?_ ?_ ?_); rotate_left 1; (rfl); (decide +kernel); (intro env; rfl)) | ((with_reducible refine EV.app ?_ ?_); (rfl); (decide +kernel)) | ((with_reducible refine EV.add ?_ ?_ ?_ ?_ ?_); (rfl); (decide +kernel); rotate_left 1; (intros; rfl); (intros; rfl)) | ((with_reducible refine EV.comp ?_ (fun C2 g1 g2 g3 g4 g5 g6 => ?_) ?_ ?_ ?_ ?_ ?_); rotate_left 1; rotate_left 1; (rfl); (rfl); (decide +kernel); (rfl); (intros; rfl)) | ((with_reducible refine EV.callBlt CallOk.len boot_len ?_ ?_ ?_ ?_ ?_ ?_ ?_); (exact GOk.b (by first | assumption | simp only [*]) "len" (by decide)); (rfl); (decide +kernel); (decide +kernel); rotate_left 1; (intro env; rfl); (intro env; rfl)) | ((with_reducible refine EV.callBlt CallOk.chr boot_chr ?_ ?_ ?_ ?_ ?_ ?_ ?_); (exact GOk.b (by first | assumption | simp only [*]) "chr" (by decide)); (rfl); (decide +kernel); (decide +kernel); rotate_left 1; (intro env; rfl); (intro env; rfl))) | (first | ((with_reducible refine EV.callOwn (call_parse _ ?_ ?_) ?_ ?_ ?_ ?_ ?_ ?_ ?_); (first | assumption | simp only [*]); (omega); (first | assumption | simp only [*]); (exact GOk.g (by first | assumption | simp only [*]) ("parse_http_list", 36) (by decide)); (exact ⟨_, _, rfl, rfl⟩); (rfl); (decide +kernel); rotate_left 1; (intro env; rfl)) | ((with_reducible refine EV.callOwn (call_escape _ ?_ ?_) ?_ ?_ ?_ ?_ ?_ ?_ ?_); (first | assumption | simp only [*]); (omega); (first | assumption | simp only [*]); (exact GOk.g (by first | assumption | simp only [*]) ("escape", 60) (by decide)); (exact ⟨_, _, rfl, rfl⟩); (rfl); (decide +kernel); rotate_left 1; (intro env; rfl)) | ((with_reducible refine EV.callOwn (call_law_sign _ ?_ ?_) ?_ ?_ ?_ ?_ ?_ ?_ ?_); (first | assumption | simp only [*]); (omega); (first | assumption | simp only [*]); (exact GOk.g (by first | assumption | simp only [*]) ("_law_sign", 81) (by decide)); (exact ⟨_, _, rfl, rfl⟩); (rfl); (decide +kernel); rotate_left 1; (intro env; rfl)) | ((with_reducible refine EV.callOwn (call_law_bracket _ ?_ ?_) ?_ ?_ ?_ ?_ ?_ ?_ ?_); (first | assumption | simp only [*]); (omega); (first | assumption | simp only [*]); (exact GOk.g (by first | assumption | simp only [*]) ("_law_bracket", 88) (by decide)); (exact ⟨_, _, rfl, rfl⟩); (rfl); (decide +kernel); rotate_left 1; (intro env; rfl)) | ((with_reducible refine EV.callOwn (call_join _ ?_ ?_) ?_ ?_ ?_ ?_ ?_ ?_ ?_); (first | assumption | simp only [*]); (omega); (first | assumption | simp only [*]); (exact GOk.g (by first | assumption | simp only [*]) ("_join_translated_parts", 74) (by decide)); (exact ⟨_, _, rfl, rfl⟩); (rfl); (decide +kernel); rotate_left 1; (intro env; rfl))) | (first | ((with_reducible refine EV.callOwn (call_translate0 _ ?_ ?_) ?_ ?_ ?_ ?_ ?_ ?_ ?_); (first | assumption | simp only [*]); (omega); (first | assumption | simp only [*]); (exact GOk.g (by first | assumption | simp only [*]) ("_translate", 67) (by decide)); (exact ⟨_, _, rfl, rfl⟩); (rfl); (decide +kernel); rotate_left 1; (intro env; rfl)) | ((with_reducible refine EV.callOwn (call_law_items _ ?_ ?_) ?_ ?_ ?_ ?_ ?_ ?_ ?_); (first | assumption | simp only [*]); (omega); (first | assumption | simp only [*]); (exact GOk.g (by first | assumption | simp only [*]) ("_law_items", 95) (by decide)); (exact ⟨_, _, rfl, rfl⟩); (rfl); (decide +kernel); rotate_left 1; (intro env; rfl))) | (first | ((with_reducible refine EV.callOwn (call_translate _ ?_ ?_) ?_ ?_ ?_ ?_ ?_ ?_ ?_); (first | assumption | simp only [*]); (omega); (first | assumption | simp only [*]); (exact GOk.g (by first | assumption | simp only [*]) ("translate", 48) (by decide)); (exact ⟨_, _, rfl, rfl⟩); (rfl); (decide +kernel); rotate_left 1; (intro env; rfl)) | ((with_reducible refine EV.callOwn (call_law_due _ ?_ ?_) ?_ ?_ ?_ ?_ ?_ ?_ ?_); (first | assumption | simp only [*]); (omega); (first | assumption | simp only [*]); (exact GOk.g (by first | assumption | simp only [*]) ("_law_due", 100) (by decide)); (exact ⟨_, _, rfl, rfl⟩); (rfl); (decide +kernel); rotate_left 1; (intro env; rfl)))))
theorem top_law {C' : Cx} (hG' : GOk C'.G) (h2 : C'.d = 4) {s : Shared} {A : Around} {σ : List Addr} {st' : St} {v : Value} {Q : Fl → St → Prop} (K : C'.G.K.In s.heap) (hlim : s.heap.NoLimit) (hL : C'.L = s.heap.objs.size) (hcd : C'.cd = .ref 109) (hq : C'.qual = Str.ofString "law" ++ ".<locals>.") (h5 : C'.cl = []) (h6 : C'.ci = fun _ => none)
    (hAd : A.depth < recursionLimit) (hA : AOk C'.d A) (hA2 : A.depth + 5 ≤ 900 ∧ A.units + 100 ≤ 9000)
    (J : ∀ h₁ : Heap, h₁.Ns s.heap.objs.size (fun y => ((["script"].map Str.ofString).zip [v]).lookup y) → (∀ b o, s.heap.get? b = some o → h₁.get? b = some o) → Inv C' σ st' h₁ s.gens s.os) (h : blaw st' Q) :
    wpAny (model C'.G.prog C'.G.w) A (call (.ref 110) [v]) (fun v s' => ∃ FL σ' st2, InvS C' σ' st2 s' ∧ Q FL st2 ∧ (match FL with | .ret X => VR σ' X v | _ => v = .none)) Bot s := by
  have D : DefAt C' 110 _ ["script"] _ _ := ⟨⟨_, K_of hG' rfl, rfl⟩, rfl, rfl, rfl, rfl, rfl, rfl, rfl, rfl, ⟨_, _, _, _, rfl, K_of hG' rfl, rfl, rfl⟩, one_bind (fun v => rfl), by decide, by decide⟩
  dsimp only at D
  refine top_call D (by decide) ?_ K hlim hL hcd hq h5 hAd ?_ rfl (by decide) J h
  · unfold blaw
    repeat (any_goals (first | (first | with_reducible exact EX.nil | with_reducible refine EX.cons ?_ ?_ | with_reducible exact ES.brk | with_reducible exact ES.cont | with_reducible refine ES.ite ?_ ?_ ?_ | with_reducible refine ES.assert ?_ | with_reducible refine ES.while ?_ ?_ | with_reducible refine ES.ret ?_ | with_reducible refine ES.del ?_ ?_ | ((with_reducible refine ES.assign ?_ ?_ ?_); rotate_left 1; (rfl); (intros; rfl)) | ((with_reducible refine ES.assign2 ?_ ?_ ?_ ?_); rotate_left 1; (rfl); (rfl); (intros; rfl)) | ((with_reducible refine ES.pair ?_ ?_ ?_ ?_ ?_ ?_ ?_); rotate_left 1; rotate_left 1; (rfl); (rfl); (intros; rfl); (intros; rfl); (intro env he; unfold swappedStores Env.kindOf Env.blockKind; rw [he.esc]; rfl)) | ((with_reducible refine ES.setItem ?_ ?_ ?_ ?_); rotate_left 1; rotate_left 1; rotate_left 1; (intros; rfl)) | ((with_reducible refine ES.aug ?_ ?_); rotate_left 1; (rfl)) | ((with_reducible refine ES.augItem ?_ ?_ ?_ ?_); rotate_left 1; rotate_left 1; rotate_left 1; (intros; rfl)) | ((with_reducible refine ES.expr ?_ ?_ ?_); rotate_left 1; (exact fun _ h => notInteractive h); (intros; rfl)) | ((with_reducible refine ES.for ?_ ?_ (fun I o => ?_) ?_); rotate_left 1; (rfl); rotate_left 1; (intros; rfl)) | ((with_reducible refine EV.name ?_ ?_); (rfl); (decide +kernel)) | with_reducible exact EV.int | with_reducible exact EV.str | with_reducible exact EV.bool | with_reducible exact EV.nothing | with_reducible exact EV.neg | with_reducible refine EV.bin ?_ ?_ | with_reducible refine EV.ite ?_ ?_ ?_ | with_reducible refine EV.list ?_ | with_reducible refine EV.slice ?_ ?_ ?_ | ((with_reducible refine EV.item ?_ ?_ ?_); rotate_left 1; rotate_left 1; (intros; rfl)) | ((with_reducible refine EV.fstr3 ?_ ?_); rotate_left 1; (decide +kernel)) | with_reducible exact EL.nil | ((with_reducible refine EL.cons ?_ ?_ ?_); rotate_left 1; rotate_left 1; (intros; rfl)) | with_reducible exact EP.no | with_reducible refine EP.so ?_ | with_reducible refine EB.not ?_ | with_reducible refine EB.and ?_ ?_ | with_reducible refine EB.or ?_ ?_ | ((with_reducible refine EB.cmp ?_ ?_ ?_); rotate_left 1; rotate_left 1; (rfl)) | ((with_reducible refine EB.ne ?_ ?_ ?_); rotate_left 1; rotate_left 1; (rfl)) | ((with_reducible refine EB.neD ?_ ?_ ?_); rotate_left 1; rotate_left 1; (rfl)) | ((with_reducible refine EB.notIn ?_ ?_ ?_); (rfl); rotate_left 1; (rfl)) | with_reducible refine EB.inTwo ?_ | ((with_reducible refine EB.val ?_ ?_); rotate_left 1; (intros; rfl)) | ((with_reducible refine EV.methL_ slot_list_append F.type_list_append CallOk.append ?_ ?_ ?_ ?_ ?_); rotate_left 1; rotate_left 1; (intro env; rfl); (intro env; rfl); (intro env; rfl)) | ((with_reducible refine EV.methS0_ F.slot_str_strip F.type_str_strip CallOk.strip ?_ ?_); rotate_left 1; (intro env; rfl)) | ((with_reducible refine EV.methS_ F.slot_str_find F.type_str_find CallOk.find ?_ ?_ ?_ ?_ ?_); rotate_left 1; rotate_left 1; (intro env; rfl); (intro env; rfl); (intro env; rfl)) | ((with_reducible refine EV.methS_ F.slot_str_join F.type_str_join CallOk.join ?_ ?_ ?_ ?_ ?_); rotate_left 1; rotate_left 1; (intro env; rfl); (intro env; rfl); (intro env; rfl)) | ((with_reducible refine EV.repl_ ?_ ?_ ?_ ?_); rotate_left 1; (rfl); (decide +kernel); (intro env; rfl)) | ((with_reducible refine EV.app ?_ ?_); (rfl); (decide +kernel)) | ((with_reducible refine EV.add ?_ ?_ ?_ ?_ ?_); (rfl); (decide +kernel); rotate_left 1; (intros; rfl); (intros; rfl)) | ((with_reducible refine EV.comp ?_ (fun C2 g1 g2 g3 g4 g5 g6 => ?_) ?_ ?_ ?_ ?_ ?_); rotate_left 1; rotate_left 1; (rfl); (rfl); (decide +kernel); (rfl); (intros; rfl)) | ((with_reducible refine EV.callBlt CallOk.len boot_len ?_ ?_ ?_ ?_ ?_ ?_ ?_); (exact GOk.b (by first | assumption | simp only [*]) "len" (by decide)); (rfl); (decide +kernel); (decide +kernel); rotate_left 1; (intro env; rfl); (intro env; rfl)) | ((with_reducible refine EV.callBlt CallOk.chr boot_chr ?_ ?_ ?_ ?_ ?_ ?_ ?_); (exact GOk.b (by first | assumption | simp only [*]) "chr" (by decide)); (rfl); (decide +kernel); (decide +kernel); rotate_left 1; (intro env; rfl); (intro env; rfl))) | (first | ((with_reducible refine EV.callOwn (call_parse _ ?_ ?_) ?_ ?_ ?_ ?_ ?_ ?_ ?_); (first | assumption | simp only [*]); (omega); (first | assumption | simp only [*]); (exact GOk.g (by first | assumption | simp only [*]) ("parse_http_list", 36) (by decide)); (exact ⟨_, _, rfl, rfl⟩); (rfl); (decide +kernel); rotate_left 1; (intro env; rfl)) | ((with_reducible refine EV.callOwn (call_escape _ ?_ ?_) ?_ ?_ ?_ ?_ ?_ ?_ ?_); (first | assumption | simp only [*]); (omega); (first | assumption | simp only [*]); (exact GOk.g (by first | assumption | simp only [*]) ("escape", 60) (by decide)); (exact ⟨_, _, rfl, rfl⟩); (rfl); (decide +kernel); rotate_left 1; (intro env; rfl)) | ((with_reducible refine EV.callOwn (call_law_sign _ ?_ ?_) ?_ ?_ ?_ ?_ ?_ ?_ ?_); (first | assumption | simp only [*]); (omega); (first | assumption | simp only [*]); (exact GOk.g (by first | assumption | simp only [*]) ("_law_sign", 81) (by decide)); (exact ⟨_, _, rfl, rfl⟩); (rfl); (decide +kernel); rotate_left 1; (intro env; rfl)) | ((with_reducible refine EV.callOwn (call_law_bracket _ ?_ ?_) ?_ ?_ ?_ ?_ ?_ ?_ ?_); (first | assumption | simp only [*]); (omega); (first | assumption | simp only [*]); (exact GOk.g (by first | assumption | simp only [*]) ("_law_bracket", 88) (by decide)); (exact ⟨_, _, rfl, rfl⟩); (rfl); (decide +kernel); rotate_left 1; (intro env; rfl)) | ((with_reducible refine EV.callOwn (call_join _ ?_ ?_) ?_ ?_ ?_ ?_ ?_ ?_ ?_); (first | assumption | simp only [*]); (omega); (first | assumption | simp only [*]); (exact GOk.g (by first | assumption | simp only [*]) ("_join_translated_parts", 74) (by decide)); (exact ⟨_, _, rfl, rfl⟩); (rfl); (decide +kernel); rotate_left 1; (intro env; rfl))) | (first | ((with_reducible refine EV.callOwn (call_translate0 _ ?_ ?_) ?_ ?_ ?_ ?_ ?_ ?_ ?_); (first | assumption | simp only [*]); (omega); (first | assumption | simp only [*]); (exact GOk.g (by first | assumption | simp only [*]) ("_translate", 67) (by decide)); (exact ⟨_, _, rfl, rfl⟩); (rfl); (decide +kernel); rotate_left 1; (intro env; rfl)) | ((with_reducible refine EV.callOwn (call_law_items _ ?_ ?_) ?_ ?_ ?_ ?_ ?_ ?_ ?_); (first | assumption | simp only [*]); (omega); (first | assumption | simp only [*]); (exact GOk.g (by first | assumption | simp only [*]) ("_law_items", 95) (by decide)); (exact ⟨_, _, rfl, rfl⟩); (rfl); (decide +kernel); rotate_left 1; (intro env; rfl))) | (first | ((with_reducible refine EV.callOwn (call_translate _ ?_ ?_) ?_ ?_ ?_ ?_ ?_ ?_ ?_); (first | assumption | simp only [*]); (omega); (first | assumption | simp only [*]); (exact GOk.g (by first | assumption | simp only [*]) ("translate", 48) (by decide)); (exact ⟨_, _, rfl, rfl⟩); (rfl); (decide +kernel); rotate_left 1; (intro env; rfl)) | ((with_reducible refine EV.callOwn (call_law_due _ ?_ ?_) ?_ ?_ ?_ ?_ ?_ ?_ ?_); (first | assumption | simp only [*]); (omega); (first | assumption | simp only [*]); (exact GOk.g (by first | assumption | simp only [*]) ("_law_due", 100) (by decide)); (exact ⟨_, _, rfl, rfl⟩); (rfl); (decide +kernel); rotate_left 1; (intro env; rfl))) | (first | ((with_reducible refine EV.callOwn (call_law_told _ ?_ ?_) ?_ ?_ ?_ ?_ ?_ ?_ ?_); (first | assumption | simp only [*]); (omega); (first | assumption | simp only [*]); (exact GOk.g (by first | assumption | simp only [*]) ("_law_told", 105) (by decide)); (exact ⟨_, _, rfl, rfl⟩); (rfl); (decide +kernel); rotate_left 1; (intro env; rfl)) | ((with_reducible refine EV.eqD ?_ ?_ ?_); rotate_left 1; rotate_left 1; (rfl)))))
  · obtain ⟨q1, q2, q3⟩ := hA
    refine ⟨q1, ?_, ?_⟩
    · show A.depth + 1 + C'.d ≤ 900; omega
    · show A.units + 3 + 20 * C'.d ≤ 9000; omega
theorem St.get_same {st : St} {x : String} {X : V} : (st.set x X).loc x = some X := by simp [St.set]
theorem St.get_int {st : St} {x : String} {i j : Int} (h : i = j) : (st.set x (.int i)).loc x = some (.int j) := by rw [h]; exact St.get_same
theorem St.get_ne {st : St} {x y : String} {X : V} {r : Option V} (hn : y ≠ x) (h : st.loc y = r) : (st.set x X).loc y = r := by simp [St.set, hn, h]
theorem St.get_push {st : St} {y : String} {o : O} {r : Option V} (h : st.loc y = r) : (st.push o).loc y = r := h
theorem St.get_upd {st : St} {y : String} {k : Nat} {o : O} {r : Option V} (h : st.loc y = r) : (st.upd k o).loc y = r := h

def EVal (a : EW) (st : St) (X : V) (st' : St) : Prop := ∀ Q : V → St → Prop, Q X st' → a st Q
def LVal (a : LW) (st : St) (X : List V) (st' : St) : Prop := ∀ Q : List V → St → Prop, Q X st' → a st Q
def BVal (a : BW) (st : St) (X : Bool) (st' : St) : Prop := ∀ Q : Bool → St → Prop, Q X st' → a st Q
def PVal (a : PW) (st : St) (X : Option Int) (st' : St) : Prop := ∀ Q : Option Int → St → Prop, Q X st' → a st Q
def CVal (W : CW) (Xs : List V) (st : St) (X : V) (st' : St) : Prop := ∀ Q : V → St → Prop, Q X st' → W Xs st Q

section
variable {st st1 st2 st3 : St} {X Y Z : V} {a b c : EW}
theorem EVal.const : EVal (wC X) st X st := fun _ h => h
theorem EVal.name {x : String} (h : st.loc x = some X) : EVal (wName x) st X st := fun _ q => ⟨X, h, q⟩
theorem EVal.bin {op : Operator} (ha : EVal a st X st1) (hb : EVal b st1 Y st2) (h : bop op X Y = some Z) : EVal (wBin op a b) st Z st2 := fun _ q => ha _ (hb _ ⟨Z, h, q⟩)
theorem BVal.cmp {op : CmpOp} {r : Bool} (ha : EVal a st X st1) (hb : EVal b st1 Y st2) (h : cop op X Y = some r) : BVal (bCmp op a b) st r st2 := fun _ q => ha _ (hb _ ⟨r, h, q⟩)
theorem BVal.val {r : Bool} (ha : EVal a st X st1) (h : tru st1 X = some r) : BVal (bVal a) st r st1 := fun _ q => ha _ ⟨r, h, q⟩
theorem BVal.not {t : BW} {r : Bool} (h : BVal t st r st1) : BVal (bNot t) st (!r) st1 := fun _ q => h _ q
theorem BVal.and {t u : BW} {r r' : Bool} (h : BVal t st r st1) (h0 : r = false → r' = false ∧ st2 = st1) (h1 : r = true → BVal u st1 r' st2) : BVal (bAnd t u) st r' st2 := fun Q q => by
  refine h _ ?_
  cases r with
  | false => obtain ⟨rfl, rfl⟩ := h0 rfl; exact q
  | true => exact h1 rfl Q q
theorem BVal.or {t u : BW} {r r' : Bool} (h : BVal t st r st1) (h0 : r = true → r' = true ∧ st2 = st1) (h1 : r = false → BVal u st1 r' st2) : BVal (bOr t u) st r' st2 := fun Q q => by
  refine h _ ?_
  cases r with
  | true => obtain ⟨rfl, rfl⟩ := h0 rfl; exact q
  | false => exact h1 rfl Q q
theorem BVal.ne {x y : List Nat} (ha : EVal a st (.str x) st1) (hb : EVal b st1 (.str y) st2) : BVal (bNe a b) st (!(x == y)) st2 := fun _ q => ha _ (hb _ ⟨x, y, rfl, rfl, q⟩)
theorem BVal.notIn {x : List Nat} {k : Nat} (ha : EVal a st (.str x) st1) : BVal (bNotIn k a) st (!decide (k ∈ x)) st1 := fun _ q => ha _ ⟨x, rfl, q⟩
theorem BVal.inTwo {x : List Nat} {y z : String} (ha : EVal a st (.str x) st1) : BVal (bInTwo a y z) st (decide (x = sl y ∨ x = sl z)) st1 := fun _ q => ha _ ⟨x, rfl, q⟩
theorem EVal.ite_t {t : BW} (h : BVal t st true st1) (ha : EVal a st1 X st2) : EVal (wIte t a b) st X st2 := fun Q q => h _ (ha Q q)
theorem EVal.ite_f {t : BW} (h : BVal t st false st1) (ha : EVal b st1 X st2) : EVal (wIte t a b) st X st2 := fun Q q => h _ (ha Q q)
theorem PVal.no : PVal pNone st none st := fun _ q => q
theorem PVal.so {i : Int} (h : EVal a st (.int i) st1) : PVal (pSome a) st (some i) st1 := fun _ q => h _ ⟨i, rfl, q⟩
theorem EVal.slice_str {lo hi : PW} {x : List Nat} {l u : Option Int} (ha : EVal a st (.str x) st1) (hl : PVal lo st1 l st2) (hu : PVal hi st2 u st3) (hx : x.length ≤ 16777216) : EVal (wSlice a lo hi) st (.str (psl l u x)) st3 :=
  fun _ q => ha _ (hl _ (hu _ ⟨hx, q⟩))
theorem EVal.slice_list {lo hi : PW} {k : Nat} {xs : List V} {l u : Option Int} (ha : EVal a st (.ref k) st1) (hl : PVal lo st1 l st2) (hu : PVal hi st2 u st3) (hk : st3.sto[k]? = some (.list xs)) (hx : xs.length ≤ 16777216) :
    EVal (wSlice a lo hi) st (.ref st3.sto.length) (st3.push (.list (psl l u xs))) :=
  fun _ q => ha _ (hl _ (hu _ (by unfold slc; simp only [hk]; exact ⟨hx, q⟩)))
theorem EVal.slice_arg {lo hi : PW} {k : Nat} {xs : List V} {l u : Option Int} (ha : EVal a st (.ref k) st1) (hl : PVal lo st1 l st2) (hu : PVal hi st2 u st3) (hk : st3.sto[k]? = some (.arg xs)) (hx : xs.length ≤ 16777216) :
    EVal (wSlice a lo hi) st (.ref st3.sto.length) (st3.push (.list (psl l u xs))) :=
  fun _ q => ha _ (hl _ (hu _ (by unfold slc; simp only [hk]; exact ⟨hx, q⟩)))
theorem EVal.item {i : Int} (ha : EVal a st X st1) (hb : EVal b st1 (.int i) st2) (h : itm st2 X i = some Z) : EVal (wItem a b) st Z st2 := fun _ q => ha _ (hb _ ⟨i, Z, rfl, h, q⟩)
theorem LVal.nil : LVal lNil st [] st := fun _ q => q
theorem LVal.cons {b : LW} {Xs : List V} (ha : EVal a st X st1) (hb : LVal b st1 Xs st2) : LVal (lCons a b) st (X :: Xs) st2 := fun _ q => ha _ (hb _ q)
theorem EVal.list {b : LW} {Xs : List V} (hb : LVal b st Xs st1) (hl : Xs.length ≤ 16777216) : EVal (wList b) st (.ref st1.sto.length) (st1.push (.list Xs)) := fun _ q => hb _ ⟨hl, q⟩
theorem EVal.f3 {x y : String} {z : List Nat} (ha : EVal a st (.str z) st1) (hl : (sl x).length + z.length + (sl y).length ≤ 16777216) : EVal (wF3 x a y) st (.str (sl x ++ (z ++ sl y))) st1 := fun _ q => ha _ ⟨z, rfl, hl, q⟩
theorem EVal.call {b : LW} {W : CW} {Xs : List V} (hb : LVal b st Xs st1) (hW : CVal W Xs st1 X st2) : EVal (wCall b W) st X st2 := fun _ q => hb _ (hW _ q)
theorem EVal.methS {b : LW} {W : CW} {Xs : List V} {x : List Nat} (ha : EVal a st (.str x) st1) (hb : LVal b st1 Xs st2) (hW : CVal W (.str x :: Xs) st2 X st3) : EVal (wMethS a b W) st X st3 := fun _ q => ha _ ⟨⟨x, rfl⟩, hb _ (hW _ q)⟩
theorem EVal.methS0 {W : CW} {x : List Nat} (ha : EVal a st (.str x) st1) (hW : CVal W [.str x] st1 X st2) : EVal (wMethS0 a W) st X st2 := fun _ q => ha _ ⟨⟨x, rfl⟩, hW _ q⟩
theorem EVal.methL {b : LW} {W : CW} {Xs : List V} {k : Nat} {xs : List V} (ha : EVal a st (.ref k) st1) (hk : st1.sto[k]? = some (.list xs)) (hb : LVal b st1 Xs st2) (hW : CVal W (.ref k :: Xs) st2 X st3) : EVal (wMethL a b W) st X st3 :=
  fun _ q => ha _ ⟨⟨k, xs, rfl, hk⟩, hb _ (hW _ q)⟩
theorem EVal.repl {k : Nat} {z x : List Nat} (ha : EVal a st (.str x) st1) (h : x.length + (x.length + 1) * z.length ≤ 16777216) : EVal (wRepl a k z) st (.str (repl1 k z x)) st1 := fun _ q => ha _ ⟨x, rfl, h, q⟩
theorem EVal.sub {x : String} {y : List Nat} (h : st.loc x = some (.str y)) (hl : 2 * y.length ≤ 16777216) : EVal (wSub x) st (.str (escT y)) st := fun _ q => ⟨y, h, hl, q⟩
theorem EVal.trans {x : String} {y : Nat} {ks : List Nat} (h : st.loc x = some (.str [y])) : EVal (wTrans x ks) st (.str (esc1 ks y)) st := fun _ q => ⟨y, h, q⟩
theorem EVal.isStr {x : String} {y : List Nat} (h : st.loc x = some (.str y)) : EVal (wIsStr x) st (.bool true) st := fun _ q => ⟨y, h, q⟩
theorem EVal.app {x : String} {k : Nat} {xs : List V} (h : st.loc x = some (.ref k)) (hk : st.sto[k]? = some (.list xs)) : EVal (wApp x) st (.ref st.sto.length) (st.push (.app k)) := fun _ q => ⟨k, xs, h, hk, q⟩
theorem EVal.add {x : String} {b : LW} {k j : Nat} {xs : List V} (h : st.loc x = some (.ref k)) (hb : LVal b st [Y] st1) (hk : st1.sto[k]? = some (.app j)) (hj : st1.sto[j]? = some (.list xs)) (hn : st1.nb ≤ j) (hl : xs.length ≤ 16777216) :
    EVal (wAdd x b) st .none (st1.upd j (.list (xs ++ [Y]))) := fun _ q => ⟨k, h, hb _ ⟨j, xs, Y, rfl, hk, hj, hn, hl, q⟩⟩
theorem CVal.append {k : Nat} {xs : List V} (hk : st.sto[k]? = some (.list xs)) (hn : st.nb ≤ k) (hl : xs.length ≤ 16777216) : CVal cAppend [.ref k, Y] st .none (st.upd k (.list (xs ++ [Y]))) := fun _ q => ⟨k, xs, Y, rfl, hk, hn, hl, q⟩
theorem CVal.len_str {x : List Nat} (hl : x.length ≤ 16777216) : CVal cLen [.str x] st (.int x.length) st := fun _ q => .inl ⟨x, rfl, hl, q⟩
theorem CVal.len_list {k : Nat} {xs : List V} (hk : st.sto[k]? = some (.list xs)) (hl : xs.length ≤ 16777216) : CVal cLen [.ref k] st (.int xs.length) st := fun _ q => .inr ⟨k, xs, rfl, hk, hl, q⟩
theorem CVal.chr {i : Int} (h0 : 0 ≤ i) (h1 : i ≤ 1114111) : CVal cChr [.int i] st (.str [i.toNat]) st := fun _ q => ⟨i, rfl, h0, h1, q⟩
theorem CVal.strip {x : List Nat} (hl : x.length ≤ 16777216) : CVal cStrip [.str x] st (.str (strp x)) st := fun _ q => ⟨x, rfl, hl, q⟩
theorem CVal.find3 {x : List Nat} {k : Nat} {i r : Int} (h0 : 0 ≤ i) (h : ∀ r', FindAt x k i.toNat x.length r' → r' = r) : CVal cFind [.str x, .str [k], .int i] st (.int r) st := fun _ q => .inl ⟨x, k, i, rfl, h0, fun r' hr => by rw [h r' hr]; exact q⟩
theorem CVal.find4 {x : List Nat} {k : Nat} {i j r : Int} (h0 : 0 ≤ i) (h1 : 0 ≤ j) (h2 : j ≤ x.length) (h : ∀ r', FindAt x k i.toNat j.toNat r' → r' = r) : CVal cFind [.str x, .str [k], .int i, .int j] st (.int r) st :=
  fun _ q => .inr ⟨x, k, i, j, rfl, h0, h1, h2, fun r' hr => by rw [h r' hr]; exact q⟩
theorem CVal.join {sep : List Nat} {k : Nat} {xs : List V} {ts : List (List Nat)} (hk : st.sto[k]? = some (.list xs)) (ht : Mine.texts xs = some ts) (hl : lsum ts + ts.length * sep.length ≤ 16777216) : CVal cJoin [.str sep, .ref k] st (.str (joins sep ts)) st :=
  fun _ q => ⟨sep, k, xs, ts, rfl, hk, ht, hl, q⟩
theorem CVal.object : CVal cObject [] st (.ref st.sto.length) (st.push .obj) := fun _ q => ⟨rfl, q⟩
end

/- statements, forwards -/
def kSeq (b : SW) (Q : Fl → St → Prop) : Fl → St → Prop := fun fl st1 => match fl with
  | .next => b st1 Q
  | fl => Q fl st1
def kIf (a b : SW) (Q : Fl → St → Prop) : Bool → St → Prop := fun r st1 => match r with | true => a st1 Q | false => b st1 Q
def kLoop (J : Nat → St → Prop) (n : Nat) (Q : Fl → St → Prop) : Fl → St → Prop := fun fl st2 => match fl with
  | .next => ∃ m, m < n ∧ J m st2
  | .cont => ∃ m, m < n ∧ J m st2
  | .brk => Q .next st2
  | .ret X => Q (.ret X) st2
def kTest (body : SW) (J : Nat → St → Prop) (n : Nat) (Q : Fl → St → Prop) : Bool → St → Prop := fun r st1 => match r with
  | true => body st1 (kLoop J n Q)
  | false => Q .next st1
section
variable {st st1 st2 st3 : St} {X Y Z : V} {a b c : EW} {s r : SW} {t : BW} {Q : Fl → St → Prop}
theorem go_nil (h : Q .next st) : sNil st Q := h
theorem go_cons (h : s st (kSeq r Q)) : sCons s r st Q := h
theorem go_next (h : r st Q) : kSeq r Q .next st := h
theorem go_kret (h : Q (.ret X) st) : kSeq r Q (.ret X) st := h
theorem go_kbrk (h : Q .brk st) : kSeq r Q .brk st := h
theorem go_kcont (h : Q .cont st) : kSeq r Q .cont st := h
theorem go_ret (ha : EVal a st X st1) (h : Q (.ret X) st1) : sRet a st Q := ha _ h
theorem go_fl {f : Fl} (h : Q f st) : sFl f st Q := h
theorem go_expr (ha : EVal a st .none st1) (h : Q .next st1) : sExpr a st Q := ha _ ⟨rfl, h⟩
theorem go_if {v : Bool} (ht : BVal t st v st1) (h : kIf s r Q v st1) : sIf t s r st Q := ht _ h
theorem go_t (h : s st Q) : kIf s r Q true st := h
theorem go_f (h : r st Q) : kIf s r Q false st := h
theorem go_assert (ht : BVal t st true st1) (h : Q .next st1) : sAssert t st Q := ht _ ⟨rfl, h⟩
theorem go_assign {x : String} (ha : EVal a st X st1) (h : Q .next (st1.set x X)) : sAssign x a st Q := ha _ h
theorem go_assign2 {x y : String} (ha : EVal a st X st1) (h : Q .next ((st1.set x X).set y X)) : sAssign2 x y a st Q := ha _ h
theorem go_pair {x y : String} (ha : EVal a st X st1) (hb : EVal b st1 Y st2) (h : Q .next ((st2.set y Y).set x X)) : sPair x y a b st Q := ha _ (hb _ h)
theorem go_aug {x : String} {op : Operator} (hx : st.loc x = some X) (ha : EVal a st Y st1) (hz : iop op X Y = some Z) (h : Q .next (st1.set x Z)) : sAug x op a st Q := ⟨X, hx, ha _ ⟨Z, hz, h⟩⟩
theorem go_setItem {k j : Nat} {i : Int} {xs : List V} (ha : EVal a st X st1) (hb : EVal b st1 (.ref k) st2) (hc : EVal c st2 (.int i) st3) (hk : st3.sto[k]? = some (.list xs)) (hl : xs.length ≤ 16777216) (hn : st3.nb ≤ k) (hj : pix i xs.length = some j)
    (h : Q .next (st3.upd k (.list (xs.set j X)))) : sSetItem a b c st Q := ha _ (hb _ (hc _ ⟨i, rfl, by unfold setAt; simp only [hk]; exact ⟨hl, hn, j, hj, h⟩⟩))
theorem go_augItem {k j : Nat} {i : Int} {op : Operator} {xs : List V} {st4 : St} {R : V} (hb : EVal b st (.ref k) st1) (hc : EVal c st1 (.int i) st2) (hi : itm st2 (.ref k) i = some X) (ha : EVal a st2 Z st4) (hr : iop op X Z = some R) (hk : st4.sto[k]? = some (.list xs)) (hl : xs.length ≤ 16777216) (hn : st4.nb ≤ k) (hj : pix i xs.length = some j)
    (h : Q .next (st4.upd k (.list (xs.set j R)))) : sAugItem b c op a st Q := hb _ (hc _ ⟨i, X, rfl, hi, ha _ ⟨R, hr, by unfold setAt; simp only [hk]; exact ⟨hl, hn, j, hj, h⟩⟩⟩)
theorem go_del {k j : Nat} {i : Int} {xs : List V} (hb : EVal b st (.ref k) st1) (hc : EVal c st1 (.int i) st2) (hk : st2.sto[k]? = some (.list xs)) (hl : xs.length ≤ 16777216) (hn : st2.nb ≤ k) (hj : pix i xs.length = some j)
    (h : Q .next (st2.upd k (.list (xs.eraseIdx j)))) : sDel b c st Q := hb _ (hc _ ⟨k, xs, i, j, rfl, rfl, hk, hl, hn, hj, h⟩)
theorem go_while (J : Nat → St → Prop) (n : Nat) (h0 : J n st) (hs : ∀ n st, J n st → t st (kTest s J n Q)) : sWhile t s st Q := ⟨J, ⟨n, h0⟩, hs⟩
theorem go_b {v : Bool} {K : Bool → St → Prop} (ht : BVal t st v st1) (h : K v st1) : t st K := ht _ h
theorem go_tt {J : Nat → St → Prop} {n : Nat} (h : s st (kLoop J n Q)) : kTest s J n Q true st := h
theorem go_tf {J : Nat → St → Prop} {n : Nat} (h : Q .next st) : kTest s J n Q false st := h
theorem go_lnext {J : Nat → St → Prop} {n m : Nat} (hm : m < n) (h : J m st) : kLoop J n Q .next st := ⟨m, hm, h⟩
theorem go_lcont {J : Nat → St → Prop} {n m : Nat} (hm : m < n) (h : J m st) : kLoop J n Q .cont st := ⟨m, hm, h⟩
theorem go_lbrk {J : Nat → St → Prop} {n : Nat} (h : Q .next st) : kLoop J n Q .brk st := h
theorem go_lret {J : Nat → St → Prop} {n : Nat} (h : Q (.ret X) st) : kLoop J n Q (.ret X) st := h
def kFor (cond : St → Prop) (x : String) (body : SW) (r : List V) (Q : Fl → St → Prop) : Fl → St → Prop := fun fl st1 => match fl with
  | .next => forW cond x body r st1 Q
  | .cont => forW cond x body r st1 Q
  | .brk => Q .next st1
  | .ret V => Q (.ret V) st1
theorem go_forCons {cond : St → Prop} {x : String} {Xs : List V} (h0 : cond st) (h : s (st.set x X) (kFor cond x s Xs Q)) : forW cond x s (X :: Xs) st Q := ⟨h0, h⟩
theorem go_forNil {cond : St → Prop} {x : String} (h0 : cond st) (h : Q .next st) : forW cond x s [] st Q := ⟨h0, h⟩
/-- a for by what holds ahead of each turn -/
theorem go_forI {cond : St → Prop} {x : String} (J : List V → St → Prop) (hc : ∀ r st, J r st → cond st) (hend : ∀ st, J [] st → Q .next st)
    (hs : ∀ X r st, J (X :: r) st → s (st.set x X) (fun fl st1 => match fl with | .next => J r st1 | .cont => J r st1 | .brk => Q .next st1 | .ret V => Q (.ret V) st1))
    (hm : ∀ st (P P' : Fl → St → Prop), (∀ f st, P f st → P' f st) → s st P → s st P') : ∀ Xs st, J Xs st → forW cond x s Xs st Q
  | [], st, h => ⟨hc _ _ h, hend st h⟩
  | X :: r, st, h => ⟨hc _ _ h, hm _ _ _ (fun f st1 q => by
      cases f with
      | next => exact go_forI J hc hend hs hm r st1 q
      | cont => exact go_forI J hc hend hs hm r st1 q
      | brk => exact q
      | ret V => exact q) (hs X r st h)⟩
theorem go_for_str {x : String} {y : List Nat} (ha : EVal a st (.str y) st1) (h : forW (fun _ => True) x s (signs y) st1 Q) : sFor x a s st Q := ha _ h
theorem go_for_list {x : String} {k : Nat} {xs : List V} (ha : EVal a st (.ref k) st1) (hk : st1.sto[k]? = some (.list xs)) (h : forW (fun st => st.sto[k]? = some (.list xs)) x s xs st1 Q) : sFor x a s st Q :=
  ha _ (by unfold forOver; simp only [hk]; exact h)
theorem go_down {x : String} {n : Nat} (ha : EVal a st (.int n) st1) (hn : n ≤ 16777216) (h : forW (fun _ => True) x s (downs n) st1 Q) : sDown x a s st Q := ha _ ⟨n, rfl, hn, h⟩
end
def kFn (st : St) (Q : V → St → Prop) : Fl → St → Prop := fun fl st' => Q (match fl with | .ret X => X | _ => .none) ⟨st.loc, st'.sto, st.nb⟩
theorem go_fnret {st s : St} {Q : V → St → Prop} {X : V} (h : Q X ⟨st.loc, s.sto, st.nb⟩) : kFn st Q (.ret X) s := h
theorem go_def {ps : List String} {b : SW} {Xs : List V} {st : St} {Q : V → St → Prop} (hl : Xs.length = ps.length) (h : ∀ s : St, s.sto = st.sto → s.nb = st.sto.length → s.loc = binds ps Xs → b s (kFn st Q)) : wFn ps b Xs st Q := ⟨hl, h _ rfl rfl rfl⟩
theorem bop_add {x y : List Nat} (h : x.length + y.length ≤ 16777216) : bop .Add (.str x) (.str y) = some (.str (x ++ y)) := if_pos h
theorem iop_add {x y : List Nat} (h : x.length + y.length ≤ 16777216) : iop .Add (.str x) (.str y) = some (.str (x ++ y)) := if_pos h
theorem bop_addi {a b : Int} : bop .Add (.int a) (.int b) = some (.int (a + b)) := rfl
theorem bop_subi {a b : Int} : bop .Sub (.int a) (.int b) = some (.int (a - b)) := rfl
theorem iop_addi {a b : Int} : iop .Add (.int a) (.int b) = some (.int (a + b)) := rfl
theorem bop_mod {a b : Int} (h : b ≠ 0) : bop .Mod (.int a) (.int b) = some (.int (Int.fmod a b)) := if_neg h
theorem bop_fdiv {a b : Int} (h : b ≠ 0) (h1 : a.natAbs < 1073741824) (h2 : b.natAbs < 1073741824) : bop .FloorDiv (.int a) (.int b) = some (.int (Int.fdiv a b)) := if_neg (by omega)
theorem pix_nn {i n : Nat} (h : i < n) : pix (i : Int) n = some i := by
  unfold pix
  rw [if_pos (by omega)]; simp
theorem itm_str {st : St} {x : List Nat} {i : Int} {k c : Nat} (hi : i = k) (hc : x[k]? = some c) (hl : x.length ≤ 16777216) : itm st (.str x) i = some (.str [c]) := by
  subst hi
  have hk := (List.getElem?_eq_some_iff.mp hc).1
  unfold itm
  simp only [if_pos hl, pix_nn hk]
  simp [hc]
theorem itm_list {st : St} {j : Nat} {xs : List V} {i : Int} {k : Nat} {X : V} (hj : st.sto[j]? = some (.list xs)) (hi : i = k) (hc : xs[k]? = some X) (hl : xs.length ≤ 16777216) : itm st (.ref j) i = some X := by
  subst hi
  have hk := (List.getElem?_eq_some_iff.mp hc).1
  unfold itm
  simp only [hj, if_pos hl, pix_nn hk]
  simp [hc]
theorem itm_last {st : St} {j : Nat} {xs : List V} {X : V} (hj : st.sto[j]? = some (.list (xs ++ [X]))) (hl : xs.length < 16777216) : itm st (.ref j) (-1) = some X := by
  unfold itm
  have : (xs ++ [X]).length ≤ 16777216 := by simp; omega
  simp only [hj, if_pos this]
  have : pix (-1) (xs ++ [X]).length = some xs.length := by
    unfold pix
    rw [if_neg (by omega), if_pos (by simp; omega)]
    simp
    omega
  rw [this]
  simp
theorem pix_last {n : Nat} : pix (-1) (n + 1) = some n := by
  unfold pix
  rw [if_neg (by omega), if_pos (by omega)]
  simp
  omega
theorem tru_str {st : St} {x : List Nat} (h : x.length ≤ 16777216) : tru st (.str x) = some (decide (x ≠ [])) := if_pos (by omega)
theorem tru_list {st : St} {k : Nat} {xs : List V} (hk : st.sto[k]? = some (.list xs)) (h : xs.length ≤ 16777216) : tru st (.ref k) = some (decide (xs ≠ [])) := by
  unfold tru
  simp only [hk]
  exact if_pos (by omega)

theorem fmod_n (a b : Nat) : Int.fmod (a : Int) (b : Int) = ((a % b : Nat) : Int) := by
  rw [Int.fmod_eq_emod_of_nonneg _ (by omega)]; rfl
theorem fdiv_n (a b : Nat) : Int.fdiv (a : Int) (b : Int) = ((a / b : Nat) : Int) := by
  rw [Int.fdiv_eq_ediv_of_nonneg _ (by omega)]; rfl

/-- _law_sign: one sign, no double quote -/
theorem spec_sign {n : Nat} {st : St} {Q : V → St → Prop} (hn : n < 1073741824) (h : ∀ c, c ≠ 34 → c < 1114112 → Q (.str [c]) st) : w_law_sign [.int n] st Q := by
  refine go_def rfl fun s hs _ hloc => ?_
  unfold b_law_sign
  have hl : s.loc "number" = some (.int n) := by rw [hloc]; rfl
  have hret : ∀ c (s' : St), s'.sto = s.sto → c ≠ 34 → c < 1114112 → kFn st Q (.ret (.str [c])) s' := fun c s' e hc hc2 => by
    refine go_fnret ?_
    rw [e, hs]; exact h c hc hc2
  have e32 : Int.fmod (n : Int) 32 = ((n % 32 : Nat) : Int) := fmod_n n 32
  refine go_cons (go_if (by repeat (first | with_reducible exact EVal.const | (with_reducible apply EVal.name; (first | with_reducible assumption | with_reducible exact St.get_same | (with_reducible apply St.get_int; omega) | ((with_reducible (repeat (first | (apply St.get_ne; decide) | apply St.get_push | apply St.get_upd))); (first | with_reducible assumption | with_reducible exact St.get_same | (with_reducible apply St.get_int; omega))))) | with_reducible apply EVal.bin | with_reducible exact bop_addi | with_reducible exact bop_subi | with_reducible exact iop_addi | (with_reducible apply bop_mod; decide) | (with_reducible apply bop_add; omega) | (with_reducible apply iop_add; omega) | with_reducible apply BVal.cmp | ((with_reducible show cop _ _ _ = some _); rfl) | with_reducible apply BVal.not | with_reducible apply BVal.ne | with_reducible apply BVal.notIn | with_reducible apply BVal.inTwo | with_reducible apply BVal.val | ((with_reducible show tru _ (V.bool _) = some _); rfl) | (with_reducible apply tru_str; omega) | with_reducible exact PVal.no | with_reducible apply PVal.so | with_reducible apply EVal.item | with_reducible exact LVal.nil | with_reducible apply LVal.cons | with_reducible apply EVal.call)) ?_)
  rw [e32]
  by_cases h24 : n % 32 < 24
  · rw [decide_eq_true (by omega : ((n % 32 : Nat) : Int) < 24)]
    obtain ⟨c, hc, hc34, hc35⟩ : ∃ c, (sl "*?[]!-abc\\^&, .|*[]--!\n~")[n % 32]? = some c ∧ c ≠ 34 ∧ c < 1114112 := by
      generalize n % 32 = m at h24
      have key : ∀ m < 24, ((sl "*?[]!-abc\\^&, .|*[]--!\n~")[m]?.any fun c => decide (c ≠ 34) && decide (c < 1114112)) = true := by decide +kernel
      have hk := key m h24
      cases hm : (sl "*?[]!-abc\\^&, .|*[]--!\n~")[m]? with
      | none => rw [hm] at hk; cases hk
      | some c => rw [hm] at hk; simp at hk; exact ⟨c, rfl, hk.1, hk.2⟩
    refine go_t (go_cons (go_ret (X := .str [c]) ?_ (go_kret (go_kret (hret c s rfl hc34 hc35)))))
    refine EVal.item EVal.const (by repeat (first | with_reducible exact EVal.const | (with_reducible apply EVal.name; (first | with_reducible assumption | with_reducible exact St.get_same | (with_reducible apply St.get_int; omega) | ((with_reducible (repeat (first | (apply St.get_ne; decide) | apply St.get_push | apply St.get_upd))); (first | with_reducible assumption | with_reducible exact St.get_same | (with_reducible apply St.get_int; omega))))) | with_reducible apply EVal.bin | with_reducible exact bop_addi | with_reducible exact bop_subi | with_reducible exact iop_addi | (with_reducible apply bop_mod; decide) | (with_reducible apply bop_add; omega) | (with_reducible apply iop_add; omega) | with_reducible apply BVal.cmp | ((with_reducible show cop _ _ _ = some _); rfl) | with_reducible apply BVal.not | with_reducible apply BVal.ne | with_reducible apply BVal.notIn | with_reducible apply BVal.inTwo | with_reducible apply BVal.val | ((with_reducible show tru _ (V.bool _) = some _); rfl) | (with_reducible apply tru_str; omega) | with_reducible exact PVal.no | with_reducible apply PVal.so | with_reducible apply EVal.item | with_reducible exact LVal.nil | with_reducible apply LVal.cons | with_reducible apply EVal.call)) ?_
    exact itm_str e32 hc (by decide +kernel)
  · rw [decide_eq_false (by omega : ¬ ((n % 32 : Nat) : Int) < 24)]
    refine go_f (go_nil (go_next (go_cons (go_assign (X := .int ((n / 32 % 1112064 : Nat) : Int)) (st1 := s) ?_ (go_next ?_)))))
    · refine EVal.bin (EVal.bin (EVal.name hl) EVal.const (bop_fdiv (by decide) (by omega) (by decide))) EVal.const ?_
      have e1 : Int.fdiv (n : Int) 32 = ((n / 32 : Nat) : Int) := fdiv_n n 32
      have e2 : Int.fmod ((n / 32 : Nat) : Int) 1112064 = ((n / 32 % 1112064 : Nat) : Int) := fmod_n _ 1112064
      rw [e1, bop_mod (by decide), e2]
    · generalize hm : n / 32 % 1112064 = m
      have hm' : m < 1112064 := by omega
      have fin : ∀ (k : Nat) (s' : St), s'.loc "code" = some (.int k) → s'.sto = s.sto → k ≤ 1114111 →
          (sCons (sIf (bCmp .Eq (wName "code") (wC (.int 34))) (sCons (sRet (wC (.str (sl "a")))) sNil) sNil) (sCons (sRet (wCall (lCons (wName "code") lNil) cChr)) sNil)) s' (kFn st Q) := by
        intro k s' hk hs' hle
        refine go_cons (go_if (by repeat (first | with_reducible exact EVal.const | (with_reducible apply EVal.name; (first | with_reducible assumption | with_reducible exact St.get_same | (with_reducible apply St.get_int; omega) | ((with_reducible (repeat (first | (apply St.get_ne; decide) | apply St.get_push | apply St.get_upd))); (first | with_reducible assumption | with_reducible exact St.get_same | (with_reducible apply St.get_int; omega))))) | with_reducible apply EVal.bin | with_reducible exact bop_addi | with_reducible exact bop_subi | with_reducible exact iop_addi | (with_reducible apply bop_mod; decide) | (with_reducible apply bop_add; omega) | (with_reducible apply iop_add; omega) | with_reducible apply BVal.cmp | ((with_reducible show cop _ _ _ = some _); rfl) | with_reducible apply BVal.not | with_reducible apply BVal.ne | with_reducible apply BVal.notIn | with_reducible apply BVal.inTwo | with_reducible apply BVal.val | ((with_reducible show tru _ (V.bool _) = some _); rfl) | (with_reducible apply tru_str; omega) | with_reducible exact PVal.no | with_reducible apply PVal.so | with_reducible apply EVal.item | with_reducible exact LVal.nil | with_reducible apply LVal.cons | with_reducible apply EVal.call)) ?_)
        by_cases h34 : k = 34
        · subst h34
          exact go_t (go_cons (go_ret EVal.const (go_kret (go_kret (hret 97 s' hs' (by decide) (by decide))))))
        · have : ((k : Int) == 34) = false := by simpa using (by omega : ¬ (k : Int) = 34)
          rw [this]
          refine go_f (go_nil (go_next (go_cons (go_ret (X := .str [k]) (st1 := s') ?_ (go_kret (hret k s' hs' h34 (by omega)))))))
          exact EVal.call (LVal.cons (EVal.name hk) LVal.nil) (CVal.chr (by omega) (by omega))
      refine go_cons (go_if (by repeat (first | with_reducible exact EVal.const | (with_reducible apply EVal.name; (first | with_reducible assumption | with_reducible exact St.get_same | (with_reducible apply St.get_int; omega) | ((with_reducible (repeat (first | (apply St.get_ne; decide) | apply St.get_push | apply St.get_upd))); (first | with_reducible assumption | with_reducible exact St.get_same | (with_reducible apply St.get_int; omega))))) | with_reducible apply EVal.bin | with_reducible exact bop_addi | with_reducible exact bop_subi | with_reducible exact iop_addi | (with_reducible apply bop_mod; decide) | (with_reducible apply bop_add; omega) | (with_reducible apply iop_add; omega) | with_reducible apply BVal.cmp | ((with_reducible show cop _ _ _ = some _); rfl) | with_reducible apply BVal.not | with_reducible apply BVal.ne | with_reducible apply BVal.notIn | with_reducible apply BVal.inTwo | with_reducible apply BVal.val | ((with_reducible show tru _ (V.bool _) = some _); rfl) | (with_reducible apply tru_str; omega) | with_reducible exact PVal.no | with_reducible apply PVal.so | with_reducible apply EVal.item | with_reducible exact LVal.nil | with_reducible apply LVal.cons | with_reducible apply EVal.call)) ?_)
      by_cases h5 : m > 55295
      · rw [decide_eq_true (by omega : ((m : Nat) : Int) > 55295)]
        refine go_t (go_cons (go_assign (by repeat (first | with_reducible exact EVal.const | (with_reducible apply EVal.name; (first | with_reducible assumption | with_reducible exact St.get_same | (with_reducible apply St.get_int; omega) | ((with_reducible (repeat (first | (apply St.get_ne; decide) | apply St.get_push | apply St.get_upd))); (first | with_reducible assumption | with_reducible exact St.get_same | (with_reducible apply St.get_int; omega))))) | with_reducible apply EVal.bin | with_reducible exact bop_addi | with_reducible exact bop_subi | with_reducible exact iop_addi | (with_reducible apply bop_mod; decide) | (with_reducible apply bop_add; omega) | (with_reducible apply iop_add; omega) | with_reducible apply BVal.cmp | ((with_reducible show cop _ _ _ = some _); rfl) | with_reducible apply BVal.not | with_reducible apply BVal.ne | with_reducible apply BVal.notIn | with_reducible apply BVal.inTwo | with_reducible apply BVal.val | ((with_reducible show tru _ (V.bool _) = some _); rfl) | (with_reducible apply tru_str; omega) | with_reducible exact PVal.no | with_reducible apply PVal.so | with_reducible apply EVal.item | with_reducible exact LVal.nil | with_reducible apply LVal.cons | with_reducible apply EVal.call)) (go_next (go_nil (go_next ?_)))))
        exact fin (m + 2048) _ (by rw [St.get_same]; congr 2) rfl (by omega)
      · rw [decide_eq_false (by omega : ¬ ((m : Nat) : Int) > 55295)]
        exact go_f (go_nil (go_next (fin m _ St.get_same rfl (by omega))))
abbrev T := List Nat

/- the law's bracket -/
def br : T → T
  | a :: 45 :: b :: r => (if a ≤ b then [a, 45, b] else []) ++ br r
  | a :: r => a :: br r
  | [] => []
theorem br_range (a b : Nat) (r : T) : br (a :: 45 :: b :: r) = (if a ≤ b then [a, 45, b] else []) ++ br r := by rw [br]
theorem br_plain (a : Nat) (r : T) (h : ∀ b r', r ≠ 45 :: b :: r') : br (a :: r) = a :: br r := by
  rw [br]
  intro b r' e
  exact h b r' e
theorem br_len : ∀ (n : Nat) (x : T), x.length ≤ n → (br x).length ≤ x.length
  | 0, [], _ => by simp [br]
  | n + 1, [], _ => by simp [br]
  | n + 1, a :: r, h => by
    by_cases q : ∃ b r', r = 45 :: b :: r'
    · obtain ⟨b, r', rfl⟩ := q
      rw [br_range]
      have := br_len n r' (by simp at h; omega)
      split <;> simp <;> omega
    · rw [br_plain a r (fun b r' e => q ⟨b, r', e⟩)]
      have := br_len n r (by simp at h; omega)
      simp; omega
def lawHead (k : T) : T := if k.head? = some 33 then 94 :: k.drop 1 else k
def brItem (k : T) : T := if k = [] then sl "(?!)" else if k = [33] then sl "." else sl "[" ++ (lawHead k ++ sl "]")

/- the chunks -/
def ch (cur : T) : T → List T
  | [] => [cur]
  | [45] => [cur ++ [45]]
  | [45, b] => [cur, [b]]
  | 45 :: b :: c :: r => cur :: ch [b, c] r
  | a :: r => ch (cur ++ [a]) r
def lastD (x : T) : Nat := x.getLast?.getD 0
def mg1 (c : T) : List T → List T
  | d :: ds => if d.headD 0 < lastD c then (c.dropLast ++ d.drop 1) :: ds else c :: d :: ds
  | [] => [c]
def mg : List T → List T
  | [] => []
  | c :: cs => mg1 c (mg cs)

theorem ch_plain (cur : T) (a : Nat) (r : T) (h : a ≠ 45) : ch cur (a :: r) = ch (cur ++ [a]) r := by
  rw [ch]
  all_goals (intros; omega)
theorem ch_free (cur : T) : ∀ r : T, 45 ∉ r → ch cur r = [cur ++ r]
  | [], _ => by simp [ch]
  | a :: r, h => by
    rw [ch_plain cur a r (fun e => h (by rw [e]; simp)), ch_free (cur ++ [a]) r (fun m => h (List.mem_cons_of_mem _ m))]
    simp
theorem ch_skip (cur : T) : ∀ (p r : T), 45 ∉ p → ch cur (p ++ r) = ch (cur ++ p) r
  | [], r, _ => by simp
  | a :: p, r, h => by
    rw [List.cons_append, ch_plain cur a _ (fun e => h (by rw [e]; simp)), ch_skip (cur ++ [a]) p r (fun m => h (List.mem_cons_of_mem _ m))]
    simp
theorem joins_cons (s x y : T) (r : List T) : joins s (x :: y :: r) = x ++ (s ++ joins s (y :: r)) := rfl
theorem joins_head (s p x : T) (r : List T) : joins s ((p ++ x) :: r) = p ++ joins s (x :: r) := by
  cases r with
  | nil => rfl
  | cons y r => rw [joins_cons, joins_cons, List.append_assoc]

theorem merged : ∀ (n : Nat) (r p : T) (a : Nat), r.length ≤ n → ∃ x ds, mg (ch (p ++ [a]) r) = (p ++ x) :: ds ∧ joins [45] (mg (ch (p ++ [a]) r)) = p ++ br (a :: r) := by
  intro n
  induction n with
  | zero =>
    intro r p a h
    have : r = [] := List.length_eq_zero_iff.mp (by omega)
    subst this
    exact ⟨[a], [], by simp [ch, mg, mg1], by simp [ch, mg, mg1, joins, br]⟩
  | succ n ih =>
    intro r p a h
    match r, h with
    | [], _ => exact ⟨[a], [], by simp [ch, mg, mg1], by simp [ch, mg, mg1, joins, br]⟩
    | c :: r, h =>
      by_cases hc : c = 45
      · subst hc
        match r, h with
        | [], _ => exact ⟨[a, 45], [], by simp [ch, mg, mg1], by simp [ch, mg, mg1, joins, br]⟩
        | [b], _ =>
          have e : ch (p ++ [a]) [45, b] = [p ++ [a], [b]] := by rw [ch]
          rw [e, br_range]
          by_cases hb : b < a
          · refine ⟨[], [], ?_, ?_⟩ <;> simp [mg, mg1, lastD, hb, joins, br, Nat.not_le.mpr hb]
          · refine ⟨[a], [[b]], ?_, ?_⟩ <;> simp [mg, mg1, lastD, hb, joins, br, Nat.not_lt.mp hb]
        | b :: c :: r, h =>
          have e : ch (p ++ [a]) (45 :: b :: c :: r) = (p ++ [a]) :: ch [b, c] r := by rw [ch]
          obtain ⟨x, ds, h1, h2⟩ := ih r [b] c (by simp at h; omega)
          have h1' : mg (ch [b, c] r) = (b :: x) :: ds := h1
          have h2' : joins [45] (mg (ch [b, c] r)) = b :: br (c :: r) := h2
          have h3 : joins [45] (x :: ds) = br (c :: r) := by
            rw [h1'] at h2'
            have : joins [45] (([b] ++ x) :: ds) = [b] ++ joins [45] (x :: ds) := joins_head _ _ _ _
            have h4 : b :: joins [45] (x :: ds) = b :: br (c :: r) := this.symm.trans h2'
            exact (List.cons.inj h4).2
          rw [e, br_range, mg, h1']
          by_cases hb : b < a
          · refine ⟨x, ds, ?_, ?_⟩
            · simp [mg1, lastD, hb]
            · have : mg1 (p ++ [a]) ((b :: x) :: ds) = (p ++ x) :: ds := by simp [mg1, lastD, hb]
              rw [this, joins_head, h3, if_neg (by omega)]; rfl
          · have : mg1 (p ++ [a]) ((b :: x) :: ds) = (p ++ [a]) :: (b :: x) :: ds := by simp [mg1, lastD, hb]
            refine ⟨[a], (b :: x) :: ds, this, ?_⟩
            rw [this, if_pos (by omega), joins_cons, ← h1', h2']
            simp
      · obtain ⟨x, ds, h1, h2⟩ := ih r (p ++ [a]) c (by simp at h; omega)
        rw [ch_plain _ _ _ hc]
        refine ⟨[a] ++ x, ds, by rw [h1, List.append_assoc], ?_⟩
        rw [h2, br_plain a (c :: r) (fun b r' e => hc (List.cons.inj e).1)]
        simp
/- a text that reads, unescaped, as another -/
inductive Un : T → T → Prop
  | nil : Un [] []
  | one (c : Nat) {r s : T} (h : c ≠ 92) (h2 : c ≠ 34) (k : Un r s) : Un (c :: r) (c :: s)
  | esc (c : Nat) {r s : T} (h : c ≠ 33) (k : Un r s) : Un (92 :: c :: r) (c :: s)
theorem Un.append {x y x' y' : T} (h : Un x y) (h' : Un x' y') : Un (x ++ x') (y ++ y') := by
  induction h with
  | nil => exact h'
  | one c h h2 _ ih => exact .one c h h2 ih
  | esc c h _ ih => exact .esc c h ih
theorem Un.len {x y : T} (h : Un x y) : y.length ≤ x.length ∧ x.length ≤ 2 * y.length := by
  induction h with
  | nil => simp
  | one c h h2 _ ih => simp; omega
  | esc c h _ ih => simp; omega
theorem Un.self : ∀ x : T, 92 ∉ x → 34 ∉ x → Un x x
  | [], _, _ => .nil
  | c :: r, h, h2 => .one c (fun e => h (by rw [e]; simp)) (fun e => h2 (by rw [e]; simp)) (Un.self r (fun m => h (List.mem_cons_of_mem _ m)) fun m => h2 (List.mem_cons_of_mem _ m))
theorem un_flat (f : Nat → T) (hf : ∀ c, c ≠ 34 → Un (f c) [c]) : ∀ x : T, 34 ∉ x → Un (x.flatMap f) x
  | [], _ => .nil
  | c :: r, h => by
    rw [List.flatMap_cons]
    exact (hf c (fun e => h (by rw [e]; simp))).append (un_flat f hf r fun m => h (List.mem_cons_of_mem _ m))
theorem flat_flat (f g : Nat → T) (x : T) : (x.flatMap f).flatMap g = x.flatMap fun c => (f c).flatMap g := List.flatMap_assoc ..
theorem twin_cases (c : Nat) (h : isTwin c = true) : c = 38 ∨ c = 124 ∨ c = 126 := by
  unfold isTwin at h; simp at h; omega
theorem un_esc (t : T) (h : 34 ∉ t) : Un (escT (repl1 92 (sl "\\\\") t)) t := by
  unfold escT repl1
  rw [flat_flat]
  refine un_flat _ (fun c hc => ?_) t h
  by_cases h1 : c = 92
  · subst h1
    have : List.flatMap (fun c => if isTwin c = true then [92, c] else [c]) (if 92 = 92 then sl "\\\\" else [92]) = [92, 92] := by decide +kernel
    rw [this]; exact .esc 92 (by decide) .nil
  · rw [if_neg h1, List.flatMap_singleton]
    by_cases h2 : isTwin c = true
    · rw [if_pos h2]
      have := twin_cases c h2
      exact .esc c (by omega) .nil
    · rw [if_neg h2]; exact .one c h1 hc .nil
theorem un_dash (t : T) (h : 34 ∉ t) : Un (escT (dashed t)) t := by
  unfold dashed escT repl1
  rw [flat_flat, flat_flat]
  refine un_flat _ (fun c hc => ?_) t h
  by_cases h1 : c = 92
  · subst h1
    have : List.flatMap (fun c => List.flatMap (fun c => if isTwin c = true then [92, c] else [c]) (if c = 45 then sl "\\-" else [c])) (if 92 = 92 then sl "\\\\" else [92]) = [92, 92] := by decide +kernel
    rw [this]; exact .esc 92 (by decide) .nil
  · rw [if_neg h1, List.flatMap_singleton]
    by_cases h3 : c = 45
    · subst h3
      have : List.flatMap (fun c => if isTwin c = true then [92, c] else [c]) (if 45 = 45 then sl "\\-" else [45]) = [92, 45] := by decide +kernel
      rw [this]; exact .esc 45 (by decide) .nil
    · rw [if_neg h3, List.flatMap_singleton]
      by_cases h2 : isTwin c = true
      · rw [if_pos h2]
        have := twin_cases c h2
        exact .esc c (by omega) .nil
      · rw [if_neg h2]; exact .one c h1 hc .nil
theorem escT_joins (s : T) (hs : escT s = s) : ∀ ts : List T, escT (joins s ts) = joins s (ts.map escT)
  | [] => rfl
  | [x] => rfl
  | x :: y :: r => by
    have ih := escT_joins s hs (y :: r)
    rw [joins_cons, escT_append, escT_append, hs, ih]; rfl
theorem un_joins {s : T} (hs : Un s s) (f : T → T) : ∀ ts : List T, (∀ t ∈ ts, Un (f t) t) → Un (joins s (ts.map f)) (joins s ts)
  | [], _ => .nil
  | [x], h => h x (by simp)
  | x :: y :: r, h => by
    have ih := un_joins hs f (y :: r) fun t ht => h t (List.mem_cons_of_mem _ ht)
    rw [joins_cons]
    show Un (joins s (f x :: f y :: r.map f)) _
    rw [joins_cons]
    exact (h x (by simp)).append (hs.append ih)
theorem un_stuff (ts : List T) (h : ∀ t ∈ ts, 34 ∉ t) : Un (escT (joins (sl "-") (ts.map dashed))) (joins [45] ts) := by
  have e : sl "-" = [45] := by decide +kernel
  rw [e, escT_joins [45] (by decide), List.map_map]
  exact un_joins (.one 45 (by decide) (by decide) .nil) (escT ∘ dashed) ts fun t ht => un_dash t (h t ht)
theorem un_esc1 (c : Nat) (h : c ≠ 34) : Un (esc1 specials c) [c] := by
  unfold esc1
  by_cases hc : c ∈ specials
  · rw [if_pos hc]
    refine .esc c (fun e => ?_) .nil
    subst e; exact absurd hc (by decide)
  · rw [if_neg hc]
    refine .one c (fun e => ?_) h .nil
    subst e; exact hc (by decide)

/-- what _translate makes of a bracket's stuff -/
def trHead (s : T) : T := if s.head? = some 33 then sl "^" ++ s.drop 1 else if s.head? = some 94 ∨ s.head? = some 91 then sl "\\" ++ s else s
def trFin (s : T) : T := if s = [] then sl "(?!)" else if s = [33] then sl "." else sl "[" ++ (trHead s ++ sl "]")
theorem un_head {s k : T} (h : Un s k) : Un (trHead s) (lawHead k) := by
  have e3 : sl "^" = [94] := by decide +kernel
  have e4 : sl "\\" = [92] := by decide +kernel
  unfold trHead lawHead
  cases h with
  | nil => simp; exact .nil
  | one c h1 h2 hk =>
    simp only [List.head?_cons, Option.some.injEq, List.drop_one, List.tail_cons]
    by_cases h33 : c = 33
    · rw [if_pos h33, if_pos h33, e3]
      exact .one 94 (by decide) (by decide) hk
    · rw [if_neg h33, if_neg h33]
      split
      · rw [e4]; exact .esc c h33 hk
      · exact .one c h1 h2 hk
  | esc c h1 hk =>
    simp only [List.head?_cons, Option.some.injEq, List.drop_one, List.tail_cons]
    rw [if_neg (by decide), if_neg (by decide), if_neg h1]
    exact .esc c h1 hk
theorem un_fin {s k : T} (h : Un s k) : Un (trFin s) (brItem k) := by
  have e1 : sl "[" = [91] := by decide +kernel
  have e2 : sl "]" = [93] := by decide +kernel
  have h0 : s = [] ↔ k = [] := by cases h <;> simp
  have h1 : s = [33] ↔ k = [33] := by
    cases h with
    | nil => simp
    | one c g1 g2 hk => cases hk <;> simp
    | esc c g1 hk => cases hk <;> simp [g1]
  unfold trFin brItem
  by_cases c0 : s = []
  · rw [if_pos c0, if_pos (h0.mp c0)]; exact Un.self (sl "(?!)") (by decide +kernel) (by decide +kernel)
  · rw [if_neg c0, if_neg (fun e => c0 (h0.mpr e))]
    by_cases c1 : s = [33]
    · rw [if_pos c1, if_pos (h1.mp c1)]; exact Un.self (sl ".") (by decide +kernel) (by decide +kernel)
    · rw [if_neg c1, if_neg (fun e => c1 (h1.mpr e)), e1, e2]
      exact (Un.one 91 (by decide) (by decide) .nil).append ((un_head h).append (.one 93 (by decide) (by decide) .nil))

/- what parse_http_list makes of a text -/
structure Ps where
  res : List T
  part : T
  esc : Bool
  quo : Bool
def pstep (p : Ps) (c : Nat) : Ps :=
  if p.esc then ⟨p.res, p.part ++ [c], false, p.quo⟩
  else if p.quo then
    if c = 92 then ⟨p.res, p.part, true, true⟩ else ⟨p.res, p.part ++ [c], false, decide (c ≠ 34)⟩
  else if c = 44 then ⟨p.res ++ [p.part], [], false, false⟩
  else ⟨p.res, p.part ++ [c], false, decide (c = 34)⟩
def plist (x : T) : List T := let p := x.foldl pstep ⟨[], [], false, false⟩; (if p.part ≠ [] then p.res ++ [p.part] else p.res).map strp
theorem p_un {x y : T} (h : Un x y) : ∀ (res : List T) (part : T), x.foldl pstep ⟨res, part, false, true⟩ = ⟨res, part ++ y, false, true⟩ := by
  induction h with
  | nil => intro res part; simp
  | one c h h2 _ ih =>
    intro res part
    rw [List.foldl_cons]
    have : pstep ⟨res, part, false, true⟩ c = ⟨res, part ++ [c], false, true⟩ := by unfold pstep; simp [h, h2]
    rw [this, ih]; simp
  | esc c h _ ih =>
    intro res part
    rw [List.foldl_cons, List.foldl_cons]
    have : pstep (pstep ⟨res, part, false, true⟩ 92) c = ⟨res, part ++ [c], false, true⟩ := by unfold pstep; simp
    rw [this, ih]; simp
def qd (t : T) : T := 34 :: (t ++ [34])
theorem p_qd {x y : T} (h : Un x y) (res : List T) (part : T) : (qd x).foldl pstep ⟨res, part, false, false⟩ = ⟨res, part ++ qd y, false, false⟩ := by
  unfold qd
  rw [List.foldl_cons]
  have : pstep ⟨res, part, false, false⟩ 34 = ⟨res, part ++ [34], false, true⟩ := by unfold pstep; simp
  rw [this, List.foldl_append, p_un h]
  have : ∀ z : T, pstep ⟨res, z, false, true⟩ 34 = ⟨res, z ++ [34], false, false⟩ := fun z => by unfold pstep; simp
  rw [List.foldl_cons, List.foldl_nil, this]; simp
def qO : Option T → T
  | none => [42]
  | some t => qd t
inductive Rel (f : T → T) : List (Option T) → List (Option T) → Prop
  | nil : Rel f [] []
  | star {xs ys} (h : Rel f xs ys) : Rel f (none :: xs) (none :: ys)
  | item {x y : T} {xs ys} (k : Un x (f y)) (h : Rel f xs ys) : Rel f (some x :: xs) (some y :: ys)
theorem qO_ne (o : Option T) : qO o ≠ [] := by cases o <;> simp [qO, qd]
theorem p_one {f : T → T} {x y : Option T} (h : Rel f [x] [y]) (hf : y.map f = y) (res : List T) (part : T) : (qO x).foldl pstep ⟨res, part, false, false⟩ = ⟨res, part ++ qO y, false, false⟩ := by
  cases h with
  | star h => simp [qO, pstep]
  | item k h =>
    rename_i x y
    have : f y = y := by simpa using hf
    rw [this] at k
    exact p_qd k res part
theorem rel_head {f : T → T} {x y : Option T} {xs ys : List (Option T)} (h : Rel f (x :: xs) (y :: ys)) : Rel f [x] [y] ∧ Rel f xs ys := by
  cases h with
  | star h => exact ⟨.star .nil, h⟩
  | item k h => exact ⟨.item k .nil, h⟩
/-- the rest of the items, behind a first part -/
def strung : T → List T → List T
  | part, [] => [part]
  | part, y :: ys => part :: strung (32 :: y) ys
theorem p_rest (f : T → T) : ∀ (xs ys : List (Option T)), Rel f xs ys → (∀ o ∈ ys, o.map f = o) → ∀ (x y : Option T) (res : List T) (part : T), Rel f [x] [y] → y.map f = y →
    ∃ r p, (joins [44, 32] ((x :: xs).map qO)).foldl pstep ⟨res, part, false, false⟩ = ⟨r, p, false, false⟩ ∧ p ≠ [] ∧ r ++ [p] = res ++ strung (part ++ qO y) (ys.map qO) := by
  intro xs
  induction xs with
  | nil =>
    intro ys h hf x y res part hxy hy
    cases h
    exact ⟨res, part ++ qO y, p_one hxy hy res part, by simp [qO_ne], by simp [strung]⟩
  | cons x' xs ih =>
    intro ys h hf x y res part hxy hy
    cases ys with
    | nil => cases h
    | cons y' ys =>
      obtain ⟨h1, h2⟩ := rel_head h
      have e : joins [44, 32] ((x :: x' :: xs).map qO) = qO x ++ ([44, 32] ++ joins [44, 32] ((x' :: xs).map qO)) := rfl
      rw [e, List.foldl_append, p_one hxy hy, List.foldl_append]
      have e2 : ([44, 32] : T).foldl pstep ⟨res, part ++ qO y, false, false⟩ = ⟨res ++ [part ++ qO y], [32], false, false⟩ := by
        simp [pstep]
      rw [e2]
      obtain ⟨r, p, g1, g2, g3⟩ := ih ys h2 (fun o ho => hf o (List.mem_cons_of_mem _ ho)) x' y' (res ++ [part ++ qO y]) [32] h1 (hf y' (by simp))
      refine ⟨r, p, g1, g2, ?_⟩
      rw [g3]
      simp [strung]
theorem strp_mid {p y : T} {a b : Nat} (hp : ∀ c ∈ p, Unicode.isSpace c = true) (h1 : y.head? = some a) (h2 : Unicode.isSpace a = false) (h3 : y.getLast? = some b) (h4 : Unicode.isSpace b = false) : strp (p ++ y) = y := by
  have hy : y ≠ [] := fun e => by rw [e] at h1; cases h1
  unfold strp Txt.strip
  rw [W.stripBy_eq]
  unfold W.stripped
  simp only [if_true]
  have e1 : (p ++ y).takeWhile Unicode.isSpace = p := by
    rw [List.takeWhile_append_of_pos hp]
    cases y with
    | nil => exact absurd rfl hy
    | cons c r =>
      have : c = a := by simpa using h1
      subst this
      rw [List.takeWhile_cons_of_neg (by rw [h2]; decide)]; simp
  rw [e1, List.drop_left]
  have e2 : y.reverse.takeWhile Unicode.isSpace = [] := by
    have : y.reverse.head? = some b := by rw [List.head?_reverse]; exact h3
    cases hr : y.reverse with
    | nil => rfl
    | cons c r =>
      rw [hr] at this
      have : c = b := by simpa using this
      subst this
      rw [List.takeWhile_cons_of_neg (by rw [h4]; decide)]
  rw [e2]
  unfold Builtin.Str.strSub
  simp [Str.length]
theorem strp_q (p : T) (hp : ∀ c ∈ p, Unicode.isSpace c = true) (o : Option T) : strp (p ++ qO o) = qO o := by
  cases o with
  | none => exact strp_mid hp (a := 42) (b := 42) rfl (by decide +kernel) rfl (by decide +kernel)
  | some t => exact strp_mid hp (a := 34) (b := 34) rfl (by decide +kernel) (by show (34 :: (t ++ [34])).getLast? = some 34; rw [← List.cons_append]; exact List.getLast?_concat) (by decide +kernel)
theorem strung_strp (p : T) (hp : ∀ c ∈ p, Unicode.isSpace c = true) : ∀ (y : Option T) (ys : List (Option T)), (strung (p ++ qO y) (ys.map qO)).map strp = (y :: ys).map qO := by
  have hb : ∀ c ∈ ([32] : T), Unicode.isSpace c = true := fun c hc => by
    have : c = 32 := by simpa using hc
    rw [this]; decide +kernel
  intro y ys
  induction ys generalizing p y with
  | nil => simp [strung, strp_q p hp]
  | cons y' ys ih =>
    rw [List.map_cons, strung, List.map_cons, strp_q p hp]
    have := ih [32] hb y'
    rw [show (32 :: qO y') = [32] ++ qO y' from rfl, this]
    simp
/-- the items, strung, are read back -/
theorem plist_items {f : T → T} {xs ys : List (Option T)} (h : Rel f xs ys) (hf : ∀ o ∈ ys, o.map f = o) : plist (joins [44, 32] (xs.map qO)) = ys.map qO := by
  cases xs with
  | nil => cases h; simp [plist, joins]
  | cons x xs =>
    cases ys with
    | nil => cases h
    | cons y ys =>
      obtain ⟨h1, h2⟩ := rel_head h
      obtain ⟨r, p, g1, g2, g3⟩ := p_rest f xs ys h2 (fun o ho => hf o (List.mem_cons_of_mem _ ho)) x y [] [] h1 (hf y (by simp))
      unfold plist
      rw [g1]
      simp only [if_pos g2, g3]
      exact strung_strp [] (by simp) y ys
theorem plist_one {x y : T} (h : Un x y) : plist (qd x) = [qd y] := by
  have h1 : Rel id [some x] [some y] := .item h .nil
  have := plist_items h1 (fun o _ => by simp)
  simpa [joins, qO] using this
/- find, as a function -/
def fnd (x : T) (c lo hi : Nat) : Option Nat := (List.range hi).find? fun n => decide (lo ≤ n) && (x[n]? == some c)
theorem fnd_some {x : T} {c lo hi n : Nat} (h : fnd x c lo hi = some n) : lo ≤ n ∧ n < hi ∧ x[n]? = some c ∧ ∀ m, lo ≤ m → m < n → x[m]? ≠ some c := by
  unfold fnd at h
  have h1 := List.find?_some h
  have h2 : n ∈ List.range hi := List.mem_of_find?_eq_some h
  simp at h1 h2
  refine ⟨h1.1, h2, h1.2, fun m hm hmn e => ?_⟩
  rw [List.find?_range_eq_some] at h
  have := h.2.2 m hmn
  simp [hm, e] at this
theorem fnd_none {x : T} {c lo hi : Nat} (h : fnd x c lo hi = none) : ∀ n, lo ≤ n → n < hi → x[n]? ≠ some c := by
  unfold fnd at h
  rw [List.find?_eq_none] at h
  intro n h1 h2 e
  exact h n (by simpa using h2) (by simp [h1, e])
def fndI : Option Nat → Int
  | some n => n
  | none => -1
theorem findAt_fnd {x : T} {c lo hi : Nat} {r : Int} (h : FindAt x c lo hi r) : r = fndI (fnd x c lo hi) := by
  cases hf : fnd x c lo hi with
  | none =>
    rcases h with ⟨rfl, _⟩ | ⟨n, rfl, h1, h2, h3, _⟩
    · rfl
    · exact absurd h3 (fnd_none hf n h1 h2)
  | some m =>
    obtain ⟨g1, g2, g3, g4⟩ := fnd_some hf
    rcases h with ⟨rfl, h0⟩ | ⟨n, rfl, h1, h2, h3, h4⟩
    · exact absurd g3 (h0 m g1 g2)
    · show (n : Int) = (m : Int)
      have : ¬ n < m := fun q => g4 n h1 q h3
      have : ¬ m < n := fun q => h4 m g1 q g3
      omega

/- the signs and brackets of a pattern -/
inductive Tk where
  | star
  | sign (c : Nat)
  | op
  | brk (l b : T)
def fst33 (x : T) (i : Nat) : Nat := if x[i]? = some 33 then i + 1 else i
theorem fst33_le (x : T) (i : Nat) : i ≤ fst33 x i ∧ fst33 x i ≤ i + 1 := by unfold fst33; split <;> omega
def toks (x : T) (i : Nat) : List Tk :=
  if h : i < x.length then
    if x[i] = 42 then .star :: toks x (i + 1)
    else if x[i] = 91 then
      match h2 : fnd x 93 (fst33 x (i + 1) + 1) x.length with
      | none => .op :: toks x (i + 1)
      | some j => .brk (seg x (i + 1) (fst33 x (i + 1))) (seg x (fst33 x (i + 1)) j) :: toks x (j + 1)
    else .sign x[i] :: toks x (i + 1)
  else []
termination_by x.length - i
decreasing_by
  · omega
  · omega
  · have := fnd_some h2
    have := fst33_le x (i + 1)
    omega
  · omega
theorem toks_end {x : T} {i : Nat} (h : x.length ≤ i) : toks x i = [] := by
  rw [toks, dif_neg (by omega)]
theorem getx {x : T} {i c : Nat} (h : x[i]? = some c) : ∃ hi : i < x.length, x[i] = c := List.getElem?_eq_some_iff.mp h
theorem toks_star {x : T} {i : Nat} (h : x[i]? = some 42) : toks x i = .star :: toks x (i + 1) := by
  obtain ⟨hi, e⟩ := getx h
  rw [toks, dif_pos hi, if_pos e]
theorem toks_sign {x : T} {i c : Nat} (h : x[i]? = some c) (h1 : c ≠ 42) (h2 : c ≠ 91) : toks x i = .sign c :: toks x (i + 1) := by
  obtain ⟨hi, e⟩ := getx h
  rw [toks, dif_pos hi, if_neg (by omega), if_neg (by omega), e]
theorem toks_op {x : T} {i : Nat} (h : x[i]? = some 91) (h2 : fnd x 93 (fst33 x (i + 1) + 1) x.length = none) : toks x i = .op :: toks x (i + 1) := by
  obtain ⟨hi, e⟩ := getx h
  rw [toks, dif_pos hi, if_neg (by omega), if_pos e]
  split
  · rfl
  · rename_i q; rw [h2] at q; cases q
theorem toks_brk {x : T} {i j : Nat} (h : x[i]? = some 91) (h2 : fnd x 93 (fst33 x (i + 1) + 1) x.length = some j) :
    toks x i = .brk (seg x (i + 1) (fst33 x (i + 1))) (seg x (fst33 x (i + 1)) j) :: toks x (j + 1) := by
  obtain ⟨hi, e⟩ := getx h
  rw [toks, dif_pos hi, if_neg (by omega), if_pos e]
  split
  · rename_i q; rw [h2] at q; cases q
  · rename_i q; rw [h2] at q; cases q; rfl

def stepO (res : List (Option T)) : Option T → List (Option T)
  | none => if res.getLast? = some none then res else res ++ [none]
  | some t => res ++ [some t]
def lawO : Tk → Option T
  | .star => none
  | .sign c => some [c]
  | .op => some [91]
  | .brk l b => some (brItem (l ++ br b))
def chs (s : T) : List T := let n := if s.head? = some 33 then 2 else 1; ch (s.take n) (s.drop n)
def stuffT (s : T) : T := escT (if 45 ∈ s then joins (sl "-") ((mg (chs s)).map dashed) else repl1 92 (sl "\\\\") s)
def trO (qm : T) : Tk → Option T
  | .star => none
  | .sign c => if c = 63 then some qm else some (esc1 specials c)
  | .op => some (sl "\\[")
  | .brk l b => some (trFin (stuffT (l ++ b)))
def lawItems (x : T) : List (Option T) := ((toks x 0).map lawO).foldl stepO []
def trItems (qm x : T) : List (Option T) := ((toks x 0).map (trO qm)).foldl stepO []

def GoodT : Tk → Prop
  | .star => True
  | .sign c => c ≠ 34
  | .op => True
  | .brk l b => 34 ∉ l ++ b ∧ ∃ c r, b = c :: r ∧ (l = [33] ∨ (l = [] ∧ c ≠ 33))
theorem seg_sub {x : T} {a b c : Nat} (h : c ∈ seg x a b) : c ∈ x := List.mem_of_mem_drop (List.mem_of_mem_take h)
theorem seg_cons {x : T} {a b c : Nat} (h : x[a]? = some c) (hb : a < b) : seg x a b = c :: seg x (a + 1) b := by
  obtain ⟨ha, e⟩ := getx h
  unfold seg
  rw [List.drop_eq_getElem_cons ha, e, show b - a = (b - (a + 1)) + 1 by omega, List.take_succ_cons]
theorem seg_nil {x : T} {a b : Nat} (h : b ≤ a) : seg x a b = [] := by
  unfold seg; rw [show b - a = 0 by omega]; rfl
/-- what holds of each token, by the ways that one is made -/
theorem toks_all {x : T} {R : Tk → Prop} (hs : R .star) (ho : R .op) (hc : ∀ c ∈ x, R (.sign c)) (hb : ∀ i j, fst33 x i + 1 ≤ j → j < x.length → R (.brk (seg x i (fst33 x i)) (seg x (fst33 x i) j))) :
    ∀ (n i : Nat), x.length - i ≤ n → ∀ tk ∈ toks x i, R tk := by
  intro n
  induction n with
  | zero => intro i hi tk ht; rw [toks_end (by omega)] at ht; simp at ht
  | succ n ih =>
    intro i hi tk ht
    by_cases hlt : i < x.length
    · have hx : x[i]? = some x[i] := List.getElem?_eq_getElem hlt
      have hm : x[i] ∈ x := List.getElem_mem hlt
      generalize x[i] = c at hx hm
      have key : ∃ tk0 i', toks x i = tk0 :: toks x i' ∧ R tk0 ∧ i < i' := by
        by_cases h1 : c = 42
        · subst h1; exact ⟨_, _, toks_star hx, hs, Nat.lt_succ_self _⟩
        · by_cases h2 : c = 91
          · subst h2
            cases hf : fnd x 93 (fst33 x (i + 1) + 1) x.length with
            | none => exact ⟨_, _, toks_op hx hf, ho, Nat.lt_succ_self _⟩
            | some j =>
              obtain ⟨g1, g2, _, _⟩ := fnd_some hf
              have := fst33_le x (i + 1)
              exact ⟨_, _, toks_brk hx hf, hb _ _ g1 g2, by omega⟩
          · exact ⟨_, _, toks_sign hx h1 h2, hc c hm, Nat.lt_succ_self _⟩
      obtain ⟨tk0, i', e, h0, hi'⟩ := key
      rw [e] at ht
      rcases List.mem_cons.mp ht with rfl | ht
      · exact h0
      · exact ih i' (by omega) tk ht
    · rw [toks_end (by omega)] at ht; simp at ht
theorem toks_good {x : T} (h : 34 ∉ x) : ∀ (n i : Nat), x.length - i ≤ n → ∀ tk ∈ toks x i, GoodT tk := by
  refine toks_all trivial trivial (fun c hm e => h (e ▸ hm)) fun i j g1 g2 => ⟨fun q => ?_, ?_⟩
  · rcases List.mem_append.mp q with q | q <;> exact h (seg_sub q)
  · obtain ⟨d, hxf⟩ : ∃ d, x[fst33 x i]? = some d := ⟨_, List.getElem?_eq_getElem (by omega)⟩
    refine ⟨_, _, seg_cons hxf (by omega), ?_⟩
    by_cases q : x[i]? = some 33
    · have e : fst33 x i = i + 1 := if_pos q
      refine .inl ?_
      rw [e] at g1 ⊢
      rw [seg_cons q (by omega), seg_nil (by omega)]
    · have e : fst33 x i = i := if_neg q
      refine .inr ⟨by rw [e, seg_nil (by omega)], fun q2 => q ?_⟩
      rw [e] at hxf; rw [hxf, q2]

/- a bracket -/
theorem br_free : ∀ x : T, 45 ∉ x → br x = x
  | [], _ => rfl
  | a :: r, h => by
    rw [br_plain a r (fun b r' e => h (by rw [e]; simp)), br_free r fun m => h (List.mem_cons_of_mem _ m)]
theorem mem_ch : ∀ (n : Nat) (r cur : T), r.length ≤ n → ∀ t ∈ ch cur r, ∀ c ∈ t, c ∈ cur ∨ c ∈ r := by
  intro n
  induction n with
  | zero =>
    intro r cur h t ht c hc
    have : r = [] := List.length_eq_zero_iff.mp (by omega)
    subst this
    simp [ch] at ht; subst ht; exact .inl hc
  | succ n ih =>
    intro r cur h t ht c hc
    match r, h with
    | [], _ => simp [ch] at ht; subst ht; exact .inl hc
    | a :: r, h =>
      by_cases ha : a = 45
      · subst ha
        match r, h with
        | [], _ =>
          simp [ch] at ht; subst ht
          rcases List.mem_append.mp hc with q | q
          · exact .inl q
          · exact .inr q
        | [b], _ =>
          have e : ch cur [45, b] = [cur, [b]] := by rw [ch]
          rw [e] at ht
          simp at ht
          rcases ht with rfl | rfl
          · exact .inl hc
          · exact .inr (by simp at hc; simp [hc])
        | b :: d :: r, h =>
          have e : ch cur (45 :: b :: d :: r) = cur :: ch [b, d] r := by rw [ch]
          rw [e] at ht
          rcases List.mem_cons.mp ht with rfl | ht
          · exact .inl hc
          · rcases ih r [b, d] (by simp at h; omega) t ht c hc with q | q
            · exact .inr (by simp at q; rcases q with rfl | rfl <;> simp)
            · exact .inr (by simp [q])
      · rw [ch_plain _ _ _ ha] at ht
        rcases ih r (cur ++ [a]) (by simp at h; omega) t ht c hc with q | q
        · rcases List.mem_append.mp q with q | q
          · exact .inl q
          · exact .inr (by simp at q; simp [q])
        · exact .inr (by simp [q])
theorem mem_mg : ∀ (cs : List T), ∀ t ∈ mg cs, ∀ c ∈ t, ∃ t' ∈ cs, c ∈ t'
  | [], t, ht, _, _ => by simp [mg] at ht
  | d :: cs, t, ht, c, hc => by
    have ih := mem_mg cs
    rw [mg] at ht
    generalize hM : mg cs = M at ht ih
    unfold mg1 at ht
    split at ht
    · rename_i e es
      split at ht
      · rcases List.mem_cons.mp ht with rfl | ht
        · rcases List.mem_append.mp hc with q | q
          · exact ⟨d, by simp, (List.dropLast_sublist d).subset q⟩
          · obtain ⟨t', h1, h2⟩ := ih e (by simp) c (List.mem_of_mem_drop q)
            exact ⟨t', by simp [h1], h2⟩
        · obtain ⟨t', h1, h2⟩ := ih t (by simp [ht]) c hc
          exact ⟨t', by simp [h1], h2⟩
      · rcases List.mem_cons.mp ht with rfl | ht
        · exact ⟨t, by simp, hc⟩
        · obtain ⟨t', h1, h2⟩ := ih t ht c hc
          exact ⟨t', by simp [h1], h2⟩
    · have : t = d := by simpa using ht
      subst this
      exact ⟨t, by simp, hc⟩
theorem chs_eq {l b : T} {c : Nat} {r : T} (hb : b = c :: r) (hl : l = [33] ∨ (l = [] ∧ c ≠ 33)) : chs (l ++ b) = ch (l ++ [c]) r := by
  subst hb
  rcases hl with rfl | ⟨rfl, hc⟩
  · rfl
  · simp [chs, hc]
theorem un_brk {l b : T} (h : GoodT (.brk l b)) : Un (trFin (stuffT (l ++ b))) (brItem (l ++ br b)) := by
  obtain ⟨h34, c, r, hb, hl⟩ := h
  refine un_fin ?_
  unfold stuffT
  by_cases h45 : 45 ∈ l ++ b
  · rw [if_pos h45, chs_eq hb hl]
    obtain ⟨x, ds, g1, g2⟩ := merged r.length r l c (Nat.le_refl _)
    have := un_stuff (mg (ch (l ++ [c]) r)) (fun t ht h => by
      obtain ⟨t', e1, e2⟩ := mem_mg _ t ht 34 h
      refine h34 ?_
      rw [hb]
      rcases mem_ch r.length r (l ++ [c]) (Nat.le_refl _) t' e1 34 e2 with q | q
      · rcases List.mem_append.mp q with q | q
        · simp [q]
        · simp at q; simp [q]
      · simp [q])
    rw [g2] at this
    rw [hb]; exact this
  · rw [if_neg h45, br_free b fun m => h45 (by simp [m])]
    exact un_esc _ h34
theorem brItem_ne (k : T) : brItem k ≠ [63] := by
  have e1 : sl "[" = [91] := by decide +kernel
  unfold brItem
  split
  · decide +kernel
  · split
    · decide +kernel
    · rw [e1]; intro q; have := (List.cons.inj q).1; omega

/- the items agree -/
theorem Rel.append {f : T → T} {xs ys xs' ys' : List (Option T)} (h : Rel f xs ys) (h' : Rel f xs' ys') : Rel f (xs ++ xs') (ys ++ ys') := by
  induction h with
  | nil => exact h'
  | star _ ih => exact .star ih
  | item k _ ih => exact .item k ih
theorem Rel.last {f : T → T} {xs ys : List (Option T)} (h : Rel f xs ys) : xs.getLast? = some none ↔ ys.getLast? = some none := by
  induction h with
  | nil => simp
  | star h ih =>
    cases h with
    | nil => simp
    | star h => simpa using ih
    | item k h => simpa using ih
  | item k h ih =>
    cases h with
    | nil => simp
    | star h => simpa using ih
    | item k h => simpa using ih
def fq (qm u : T) : T := if u = [63] then qm else u
theorem rel_step {qm : T} (hq : Un qm qm) {tk : Tk} (hg : GoodT tk) {xs ys : List (Option T)} (h : Rel (fq qm) xs ys) : Rel (fq qm) (stepO xs (trO qm tk)) (stepO ys (lawO tk)) := by
  cases tk with
  | star =>
    show Rel _ (if xs.getLast? = some none then xs else xs ++ [none]) (if ys.getLast? = some none then ys else ys ++ [none])
    by_cases hl : ys.getLast? = some none
    · rw [if_pos hl, if_pos (h.last.mpr hl)]; exact h
    · rw [if_neg hl, if_neg (fun q => hl (h.last.mp q))]; exact h.append (.star .nil)
  | sign c =>
    show Rel _ (stepO xs (if c = 63 then some qm else some (esc1 specials c))) (ys ++ [some [c]])
    by_cases hc : c = 63
    · subst hc
      rw [if_pos rfl]
      exact h.append (.item (by unfold fq; rw [if_pos rfl]; exact hq) .nil)
    · rw [if_neg hc]
      exact h.append (.item (by unfold fq; rw [if_neg (by simpa using hc)]; exact un_esc1 c hg) .nil)
  | op =>
    refine h.append (.item ?_ .nil)
    unfold fq
    rw [if_neg (by decide)]
    have : sl "\\[" = [92, 91] := by decide +kernel
    rw [this]
    exact .esc 91 (by decide) .nil
  | brk l b =>
    refine h.append (.item ?_ .nil)
    unfold fq
    rw [if_neg (brItem_ne _)]
    exact un_brk hg
theorem rel_fold {qm : T} (hq : Un qm qm) : ∀ (tks : List Tk), (∀ tk ∈ tks, GoodT tk) → ∀ xs ys, Rel (fq qm) xs ys → Rel (fq qm) ((tks.map (trO qm)).foldl stepO xs) ((tks.map lawO).foldl stepO ys)
  | [], _, _, _, h => h
  | tk :: r, hg, xs, ys, h => rel_fold hq r (fun t ht => hg t (List.mem_cons_of_mem _ ht)) _ _ (rel_step hq (hg tk (by simp)) h)
theorem rel_items {qm : T} (hq : Un qm qm) {x : T} (h : 34 ∉ x) : Rel (fq qm) (trItems qm x) (lawItems x) :=
  rel_fold hq _ (toks_good h x.length 0 (by omega)) _ _ .nil
/- the rows between the stars -/
def rowsR : List (Option T) → T × List T
  | [] => ([], [])
  | none :: r => ([], (rowsR r).1 :: (rowsR r).2)
  | some t :: r => (t ++ (rowsR r).1, (rowsR r).2)
def mid : List T → T
  | [] => []
  | [l] => sl ".*" ++ l
  | a :: b :: r => (sl "(?>.*?" ++ (a ++ sl ")")) ++ mid (b :: r)
def body (p : T × List T) : T := p.1 ++ mid p.2
theorem body_some (t : T) (r : List (Option T)) : body (rowsR (some t :: r)) = t ++ body (rowsR r) := by simp [rowsR, body]
theorem body_none (r : List (Option T)) : body (rowsR (none :: r)) = mid ((rowsR r).1 :: (rowsR r).2) := by simp [rowsR, body]
theorem rows_some (ts : List T) (r : List (Option T)) : rowsR (ts.map some ++ r) = (ts.flatten ++ (rowsR r).1, (rowsR r).2) := by
  induction ts with
  | nil => simp
  | cons t ts ih => simp [rowsR, ih]
theorem un_mid : ∀ (xs ys : List T), xs.length = ys.length → (∀ (i : Nat) (x y : T), xs[i]? = some x → ys[i]? = some y → Un x y) → Un (mid xs) (mid ys)
  | [], [], _, _ => .nil
  | [x], [y], _, h => (Un.self (sl ".*") (by decide +kernel) (by decide +kernel)).append (h 0 x y rfl rfl)
  | x :: x' :: xs, y :: y' :: ys, hl, h =>
    ((Un.self (sl "(?>.*?") (by decide +kernel) (by decide +kernel)).append ((h 0 x y rfl rfl).append (Un.self (sl ")") (by decide +kernel) (by decide +kernel)))).append
      (un_mid (x' :: xs) (y' :: ys) (by simpa using hl) fun i a b ha hb => h (i + 1) a b (by simpa using ha) (by simpa using hb))
  | [x], _ :: _ :: _, hl, _ => by simp at hl
  | _ :: _ :: _, [y], hl, _ => by simp at hl
theorem un_rows {f : T → T} {xs ys : List (Option T)} (h : Rel f xs ys) : Un (rowsR xs).1 (rowsR (ys.map (Option.map f))).1 ∧ (rowsR xs).2.length = (rowsR (ys.map (Option.map f))).2.length ∧
    ∀ (i : Nat) (x y : T), (rowsR xs).2[i]? = some x → (rowsR (ys.map (Option.map f))).2[i]? = some y → Un x y := by
  induction h with
  | nil => exact ⟨.nil, rfl, fun i x y e => by simp [rowsR] at e⟩
  | star h ih =>
    refine ⟨.nil, by simp [rowsR, ih.2.1], fun i x y e1 e2 => ?_⟩
    cases i with
    | zero => simp [rowsR] at e1 e2; rw [← e1, ← e2]; exact ih.1
    | succ i => simp [rowsR] at e1 e2; exact ih.2.2 i x y e1 e2
  | item k h ih => exact ⟨k.append ih.1, ih.2⟩
theorem un_body {f : T → T} {xs ys : List (Option T)} (h : Rel f xs ys) : Un (body (rowsR xs)) (body (rowsR (ys.map (Option.map f)))) :=
  (un_rows h).1.append (un_mid _ _ (un_rows h).2.1 (un_rows h).2.2)
def whole (xs : List (Option T)) : T := sl "(?s:" ++ (body (rowsR xs) ++ sl ")\\Z")
def wholeL (xs : List (Option T)) : T := sl "(?s:" ++ (body (rowsR xs) ++ sl ")Z")
theorem un_whole {f : T → T} {xs ys : List (Option T)} (h : Rel f xs ys) : Un (whole xs) (wholeL (ys.map (Option.map f))) := by
  have e : sl ")\\Z" = [41, 92, 90] := by decide +kernel
  have e2 : sl ")Z" = [41, 90] := by decide +kernel
  refine (Un.self (sl "(?s:") (by decide +kernel) (by decide +kernel)).append ((un_body h).append ?_)
  rw [e, e2]
  exact .one 41 (by decide) (by decide) (.esc 90 (by decide) .nil)

/- no two stars side by side -/
def NA (xs : List (Option T)) : Prop := ∀ i, xs[i]? = some none → xs[i + 1]? ≠ some none
theorem na_step {xs : List (Option T)} (h : NA xs) (o : Option T) : NA (stepO xs o) := by
  have app : ∀ o, (o = none → xs.getLast? ≠ some none) → NA (xs ++ [o]) := by
    intro o ho i e1 e2
    by_cases h1 : i + 1 < xs.length
    · rw [List.getElem?_append_left h1] at e2
      rw [List.getElem?_append_left (by omega)] at e1
      exact h i e1 e2
    · by_cases h2 : i + 1 = xs.length
      · rw [List.getElem?_append_right (by omega), h2] at e2
        simp at e2
        rw [List.getElem?_append_left (by omega)] at e1
        refine ho e2 ?_
        rw [List.getLast?_eq_getElem?, ← h2]; simpa using e1
      · rw [List.getElem?_append_right (by omega)] at e2
        have : i + 1 - xs.length = (i - xs.length) + 1 := by omega
        rw [this] at e2; simp at e2
  cases o with
  | none =>
    show NA (if xs.getLast? = some none then xs else xs ++ [none])
    by_cases q : xs.getLast? = some none
    · rw [if_pos q]; exact h
    · rw [if_neg q]; exact app none fun _ => q
  | some t => exact app (some t) fun e => nomatch e
theorem na_fold : ∀ (os xs : List (Option T)), NA xs → NA (os.foldl stepO xs)
  | [], _, h => h
  | o :: os, xs, h => na_fold os _ (na_step h o)
theorem na_tr (qm x : T) : NA (trItems qm x) := na_fold _ _ fun i e => by simp at e

/- sizes -/
theorem flat_len (ts : List T) : ts.flatten.length = lsum ts := by simp [lsum]
theorem joins_flat : ∀ ts : List T, joins [] ts = ts.flatten
  | [] => rfl
  | [x] => by simp [joins]
  | x :: y :: r => by rw [joins_cons, joins_flat (y :: r)]; simp
theorem repl_len (c : Nat) (z : T) (hz : z.length ≤ 2) : ∀ x : T, (repl1 c z x).length ≤ 2 * x.length
  | [] => by simp [repl1]
  | a :: r => by
    have ih := repl_len c z hz r
    unfold repl1 at ih ⊢
    rw [List.flatMap_cons, List.length_append, List.length_cons]
    split
    · omega
    · rw [List.length_singleton]; omega
theorem esc_len : ∀ x : T, (escT x).length ≤ 2 * x.length
  | [] => by simp [escT]
  | a :: r => by
    have ih := esc_len r
    unfold escT at ih ⊢
    rw [List.flatMap_cons, List.length_append, List.length_cons]
    split
    · rw [List.length_cons, List.length_singleton]; omega
    · rw [List.length_singleton]; omega
def total (xs : List (Option T)) : Nat := (xs.map fun o => (o.getD []).length).sum
theorem step_len (xs : List (Option T)) (o : Option T) : (stepO xs o).length ≤ xs.length + 1 ∧ total (stepO xs o) ≤ total xs + (o.getD []).length := by
  cases o with
  | none =>
    show (if xs.getLast? = some none then xs else xs ++ [none]).length ≤ _ ∧ total (if xs.getLast? = some none then xs else xs ++ [none]) ≤ _
    by_cases q : xs.getLast? = some none
    · rw [if_pos q]; simp
    · rw [if_neg q]; simp [total]
  | some t => simp [stepO, total]
theorem fold_len (n : Nat) : ∀ (os xs : List (Option T)), (∀ o ∈ os, (o.getD []).length ≤ n) → (os.foldl stepO xs).length ≤ xs.length + os.length ∧ total (os.foldl stepO xs) ≤ total xs + n * os.length
  | [], xs, _ => by simp
  | o :: os, xs, h => by
    have ih := fold_len n os (stepO xs o) fun p hp => h p (List.mem_cons_of_mem _ hp)
    have h1 := step_len xs o
    have h2 := h o (by simp)
    rw [List.foldl_cons, List.length_cons, Nat.mul_add]
    omega
theorem toks_len {x : T} : ∀ (n i : Nat), x.length - i ≤ n → (toks x i).length ≤ x.length - i := by
  intro n
  induction n with
  | zero => intro i hi; rw [toks_end (by omega)]; simp
  | succ n ih =>
    intro i hi
    by_cases hlt : i < x.length
    · have hx : x[i]? = some x[i] := List.getElem?_eq_getElem hlt
      generalize x[i] = c at hx
      have ih1 := ih (i + 1) (by omega)
      by_cases h1 : c = 42
      · subst h1; rw [toks_star hx, List.length_cons]; omega
      · by_cases h2 : c = 91
        · subst h2
          cases hf : fnd x 93 (fst33 x (i + 1) + 1) x.length with
          | none => rw [toks_op hx hf, List.length_cons]; omega
          | some j =>
            rw [toks_brk hx hf, List.length_cons]
            obtain ⟨g1, g2, _, _⟩ := fnd_some hf
            have := fst33_le x (i + 1)
            have := ih (j + 1) (by omega)
            omega
        · rw [toks_sign hx h1 h2, List.length_cons]; omega
    · rw [toks_end (by omega)]; simp
theorem seg_lens (x : T) (a b : Nat) : (seg x a b).length ≤ x.length ∧ (seg x a b).length ≤ b - a := by
  unfold seg; simp; omega
def Small (n : Nat) : Tk → Prop
  | .brk l b => l.length + b.length ≤ n
  | _ => True
theorem toks_small {x : T} : ∀ (n i : Nat), x.length - i ≤ n → ∀ tk ∈ toks x i, Small x.length tk := by
  refine toks_all trivial trivial (fun _ _ => trivial) fun i j g1 g2 => ?_
  have hle := fst33_le x i
  show (seg x i (fst33 x i)).length + (seg x (fst33 x i) j).length ≤ x.length
  have q1 := (seg_lens x i (fst33 x i)).2
  have q2 := (seg_lens x (fst33 x i) j).2
  omega
theorem brItem_len (k : T) : (brItem k).length ≤ k.length + 4 := by
  have e1 : (sl "(?!)").length = 4 := by decide +kernel
  have e2 : (sl ".").length = 1 := by decide +kernel
  have e3 : (sl "[").length = 1 := by decide +kernel
  have e4 : (sl "]").length = 1 := by decide +kernel
  have e5 : (lawHead k).length ≤ k.length + 1 := by unfold lawHead; split <;> simp <;> omega
  unfold brItem
  split
  · omega
  · split
    · omega
    · rw [List.length_append, List.length_append]; omega
theorem lawO_len {n : Nat} {tk : Tk} (h : Small n tk) : ((lawO tk).getD []).length ≤ n + 4 := by
  cases tk with
  | star => simp [lawO]
  | sign c => simp [lawO]
  | op => simp [lawO]
  | brk l b =>
    have h1 := brItem_len (l ++ br b)
    have h2 := br_len b.length b (Nat.le_refl _)
    have h3 : l.length + b.length ≤ n := h
    show (brItem (l ++ br b)).length ≤ n + 4
    rw [List.length_append] at h1
    omega
theorem lawItems_len (x : T) : (lawItems x).length ≤ x.length ∧ total (lawItems x) ≤ (x.length + 4) * x.length := by
  have h1 := toks_len (x := x) x.length 0 (by omega)
  have h2 := fold_len (x.length + 4) ((toks x 0).map lawO) [] (fun o ho => by
    obtain ⟨tk, ht, rfl⟩ := List.mem_map.mp ho
    exact lawO_len (toks_small x.length 0 (by omega) tk ht))
  have h3 : ((toks x 0).map lawO).length ≤ x.length := by simp; omega
  have h4 : (x.length + 4) * ((toks x 0).map lawO).length ≤ (x.length + 4) * x.length := Nat.mul_le_mul_left _ h3
  unfold lawItems
  simp only [List.length_nil, total, List.map_nil, List.sum_nil] at h2 ⊢
  omega
theorem Rel.lens {qm : T} (hq : qm.length = 1) {xs ys : List (Option T)} (h : Rel (fq qm) xs ys) : xs.length = ys.length ∧ total xs ≤ 2 * total ys := by
  induction h with
  | nil => simp [total]
  | star h ih => simp [total] at ih ⊢; omega
  | item k h ih =>
    rename_i x y xs ys
    have h1 := k.len
    have h2 : (fq qm y).length ≤ y.length := by
      unfold fq; split
      · rename_i e; rw [e, hq]; simp
      · exact Nat.le_refl _
    simp [total] at ih ⊢; omega
theorem mid_len (rs : List T) : (mid rs).length ≤ lsum rs + 7 * rs.length := by
  have e1 : (sl ".*").length = 2 := by decide +kernel
  have e2 : (sl "(?>.*?").length = 6 := by decide +kernel
  have e3 : (sl ")").length = 1 := by decide +kernel
  fun_induction mid rs with
  | case1 => simp
  | case2 l => simp [lsum, e1]; omega
  | case3 a b r ih =>
    simp only [List.length_append, e2, e3, lsum, List.map_cons, List.sum_cons, List.length_cons] at ih ⊢
    omega
theorem rows_len : ∀ xs : List (Option T), (rowsR xs).1.length + lsum (rowsR xs).2 ≤ total xs ∧ (rowsR xs).2.length ≤ xs.length
  | [] => by simp [rowsR, lsum]
  | none :: r => by
    have ih := rows_len r
    simp [rowsR, lsum, total] at ih ⊢
    omega
  | some t :: r => by
    have ih := rows_len r
    simp [rowsR, lsum, total] at ih ⊢
    omega
theorem body_len (xs : List (Option T)) : (body (rowsR xs)).length ≤ total xs + 7 * xs.length := by
  have h1 := rows_len xs
  have h2 := mid_len (rowsR xs).2
  unfold body
  rw [List.length_append]; omega
theorem seg_split (x : T) {a b c : Nat} (h1 : a ≤ b) (h2 : b ≤ c) : seg x a c = seg x a b ++ seg x b c := by
  unfold seg
  have e : c - a = (b - a) + (c - b) := by omega
  rw [e, List.take_add, List.drop_drop, show a + (b - a) = b by omega]
theorem seg_len_eq {x : T} {a b : Nat} (h : b ≤ x.length) : (seg x a b).length = b - a := by
  unfold seg; simp; omega
theorem seg_one {x : T} {a c : Nat} (h : x[a]? = some c) : seg x a (a + 1) = [c] := by rw [seg_cons h (by omega), seg_nil (by omega)]
theorem seg_no {x : T} {c a b : Nat} (h : ∀ n, a ≤ n → n < b → x[n]? ≠ some c) : c ∉ seg x a b := fun m => by
  obtain ⟨j, h1, h2, h3, h4⟩ := seg_mem m
  refine h j h1 h2 ?_
  rw [List.getElem?_eq_getElem h3, h4]
  simp [List.getD, h3]

/-- none is empty, and all but the last are two long -/
def Good2 (cs : List T) : Prop := (∀ t ∈ cs, t ≠ []) ∧ ∀ t ∈ cs.dropLast, 2 ≤ t.length
theorem good_mg : ∀ cs : List T, cs ≠ [] → Good2 cs → ∃ a d ds, mg cs = (a :: d) :: ds
  | [], h, _ => absurd rfl h
  | [c], _, h => by
    cases c with
    | nil => exact absurd rfl (h.1 [] (by simp))
    | cons a d => exact ⟨a, d, [], by simp [mg, mg1]⟩
  | c :: c' :: cs, _, h => by
    have hc : 2 ≤ c.length := h.2 c (by simp)
    obtain ⟨a, d, ds, e⟩ := good_mg (c' :: cs) (by simp) ⟨fun t ht => h.1 t (List.mem_cons_of_mem _ ht), fun t ht => h.2 t (by rw [List.dropLast_cons_of_ne_nil (by simp)]; exact List.mem_cons_of_mem _ ht)⟩
    rw [mg, e]
    match c, hc with
    | p :: q :: r, _ =>
      have e2 : mg1 (p :: q :: r) ((a :: d) :: ds) = if a < lastD (p :: q :: r) then (p :: ((q :: r).dropLast ++ d)) :: ds else (p :: q :: r) :: (a :: d) :: ds := rfl
      rw [e2]
      split
      · exact ⟨p, _, _, rfl⟩
      · exact ⟨p, q :: r, _, rfl⟩
theorem ch_good : ∀ (n : Nat) (r cur : T), r.length ≤ n → cur ≠ [] → ∃ t0 rest, ch cur r = t0 :: rest ∧ t0 ≠ [] ∧ Good2 rest ∧ (2 ≤ cur.length → 2 ≤ t0.length) := by
  have g0 : Good2 [] := ⟨by simp, by simp⟩
  intro n
  induction n with
  | zero =>
    intro r cur h hc
    have : r = [] := List.length_eq_zero_iff.mp (by omega)
    subst this
    exact ⟨cur, [], by simp [ch], hc, g0, id⟩
  | succ n ih =>
    intro r cur h hc
    match r, h with
    | [], _ => exact ⟨cur, [], by simp [ch], hc, g0, id⟩
    | a :: r, h =>
      by_cases ha : a = 45
      · subst ha
        match r, h with
        | [], _ => exact ⟨cur ++ [45], [], by simp [ch], by simp, g0, fun q => by simp; omega⟩
        | [b], _ => exact ⟨cur, [[b]], by rw [ch], hc, ⟨by simp, by simp⟩, id⟩
        | b :: d :: r, h =>
          obtain ⟨t0, rest, e, h1, h2, h3⟩ := ih r [b, d] (by simp at h; omega) (by simp)
          refine ⟨cur, t0 :: rest, by rw [ch, e], hc, ⟨fun t ht => ?_, fun t ht => ?_⟩, id⟩
          · rcases List.mem_cons.mp ht with rfl | ht
            · exact h1
            · exact h2.1 t ht
          · cases rest with
            | nil => simp at ht
            | cons p q =>
              rw [List.dropLast_cons_of_ne_nil (by simp)] at ht
              rcases List.mem_cons.mp ht with rfl | ht
              · exact h3 (by simp)
              · exact h2.2 t ht
      · rw [ch_plain _ _ _ ha]
        obtain ⟨t0, rest, e, h1, h2, h3⟩ := ih r (cur ++ [a]) (by simp at h; omega) (by simp)
        exact ⟨t0, rest, e, h1, h2, fun q => h3 (by simp; omega)⟩
theorem good_drop {t0 : T} {rest : List T} (h : Good2 rest) (k : Nat) : Good2 ((t0 :: rest).drop (k + 1)) := by
  rw [List.drop_succ_cons]
  refine ⟨fun t ht => h.1 t (List.mem_of_mem_drop ht), fun t ht => h.2 t ?_⟩
  rw [List.dropLast_eq_take, List.length_drop] at ht
  rw [List.dropLast_eq_take]
  have e : (rest.drop k).take (rest.length - k - 1) = (rest.take (rest.length - 1)).drop k := by
    rw [List.drop_take]; congr 1; omega
  rw [e] at ht
  exact List.mem_of_mem_drop ht

/- sizes -/
theorem ch_size : ∀ (n : Nat) (r cur : T), r.length ≤ n → lsum (ch cur r) ≤ cur.length + r.length ∧ (ch cur r).length ≤ r.length + 1 := by
  intro n
  induction n with
  | zero =>
    intro r cur h
    have : r = [] := List.length_eq_zero_iff.mp (by omega)
    subst this
    simp [ch, lsum]
  | succ n ih =>
    intro r cur h
    match r, h with
    | [], _ => simp [ch, lsum]
    | a :: r, h =>
      by_cases ha : a = 45
      · subst ha
        match r, h with
        | [], _ => simp [ch, lsum]
        | [b], _ =>
          have e : ch cur [45, b] = [cur, [b]] := by rw [ch]
          rw [e]; simp [lsum]
        | b :: d :: r, h =>
          have := ih r [b, d] (by simp at h; omega)
          have e : ch cur (45 :: b :: d :: r) = cur :: ch [b, d] r := by rw [ch]
          rw [e]
          simp only [lsum, List.map_cons, List.sum_cons, List.length_cons, List.length_nil] at this ⊢
          omega
      · rw [ch_plain _ _ _ ha]
        have := ih r (cur ++ [a]) (by simp at h; omega)
        simp only [List.length_append, List.length_cons, List.length_nil] at this ⊢
        omega
theorem mg_size : ∀ cs : List T, lsum (mg cs) ≤ lsum cs ∧ (mg cs).length ≤ cs.length
  | [] => by simp [mg]
  | c :: cs => by
    have ih := mg_size cs
    rw [mg]
    generalize mg cs = M at ih
    unfold mg1
    split
    · rename_i d ds
      split
      · simp only [lsum, List.map_cons, List.sum_cons, List.length_cons, List.length_append, List.length_dropLast, List.length_drop] at ih ⊢
        omega
      · simp only [lsum, List.map_cons, List.sum_cons, List.length_cons] at ih ⊢
        omega
    · simp only [lsum, List.map_cons, List.sum_cons, List.length_cons, List.map_nil, List.sum_nil, List.length_nil] at ih ⊢
      omega
theorem dashed_len (t : T) : (dashed t).length ≤ 4 * t.length := by
  unfold dashed
  have h1 := repl_len 92 (sl "\\\\") (by decide +kernel) t
  have h2 := repl_len 45 (sl "\\-") (by decide +kernel) (repl1 92 (sl "\\\\") t)
  omega
theorem dashed_sum : ∀ ts : List T, lsum (ts.map dashed) ≤ 4 * lsum ts
  | [] => by simp [lsum]
  | t :: ts => by
    have ih := dashed_sum ts
    have h := dashed_len t
    simp only [lsum, List.map_cons, List.sum_cons] at ih ⊢
    omega
theorem joins_len (s : T) : ∀ ts : List T, (joins s ts).length ≤ lsum ts + ts.length * s.length
  | [] => by simp [joins]
  | [x] => by simp [joins, lsum]
  | x :: y :: r => by
    have ih := joins_len s (y :: r)
    rw [joins_cons, List.length_append, List.length_append]
    simp only [lsum, List.map_cons, List.sum_cons, List.length_cons, Nat.add_mul] at ih ⊢
    omega
theorem chs_size (s : T) : lsum (chs s) ≤ s.length ∧ (chs s).length ≤ s.length + 1 := by
  show lsum (ch (s.take (if s.head? = some 33 then 2 else 1)) (s.drop (if s.head? = some 33 then 2 else 1))) ≤ _ ∧ (ch (s.take (if s.head? = some 33 then 2 else 1)) (s.drop (if s.head? = some 33 then 2 else 1))).length ≤ _
  have h := ch_size _ (s.drop (if s.head? = some 33 then 2 else 1)) (s.take (if s.head? = some 33 then 2 else 1)) (Nat.le_refl _)
  have e : (s.take (if s.head? = some 33 then 2 else 1)).length + (s.drop (if s.head? = some 33 then 2 else 1)).length = s.length := by
    rw [← List.length_append, List.take_append_drop]
  have h3 := h.2
  have h4 : (s.drop (if s.head? = some 33 then 2 else 1)).length ≤ s.length := by simp
  exact ⟨by have := h.1; omega, by omega⟩
theorem stuff_len (s : T) : (stuffT s).length ≤ 20 * s.length + 20 := by
  unfold stuffT
  have h1 := repl_len 92 (sl "\\\\") (by decide +kernel) s
  have h2 := joins_len (sl "-") ((mg (chs s)).map dashed)
  have h3 := dashed_sum (mg (chs s))
  have h4 := mg_size (chs s)
  have h5 := chs_size s
  have e : (sl "-").length = 1 := by decide +kernel
  rw [e, List.length_map] at h2
  split
  · have h0 := esc_len (joins (sl "-") ((mg (chs s)).map dashed)); omega
  · have h0 := esc_len (repl1 92 (sl "\\\\") s); omega
/- the store grows -/
def Pre (a s : List O) : Prop := ∃ j, s = a ++ j
theorem Pre.rfl' {a : List O} : Pre a a := ⟨[], by simp⟩
theorem Pre.push {a s : List O} (h : Pre a s) (o : O) : Pre a (s ++ [o]) := by obtain ⟨j, rfl⟩ := h; exact ⟨j ++ [o], by simp⟩
theorem Pre.trans {a b c : List O} (h : Pre a b) (h' : Pre b c) : Pre a c := by obtain ⟨j, rfl⟩ := h; obtain ⟨k, rfl⟩ := h'; exact ⟨j ++ k, by simp⟩
theorem Pre.set {a s : List O} (h : Pre a s) {k : Nat} (o : O) (hk : a.length ≤ k) : Pre a (s.set k o) := by
  obtain ⟨j, rfl⟩ := h
  exact ⟨j.set (k - a.length) o, by rw [List.set_append_right _ _ hk]⟩
theorem Pre.get {a s : List O} (h : Pre a s) {i : Nat} {o : O} (e : a[i]? = some o) : s[i]? = some o := by
  obtain ⟨j, rfl⟩ := h
  have := (List.getElem?_eq_some_iff.mp e).1
  rw [List.getElem?_append_left this]; exact e
theorem Pre.le {a s : List O} (h : Pre a s) : a.length ≤ s.length := by obtain ⟨j, rfl⟩ := h; simp
theorem lt_of_get {α : Type} {s : List α} {i : Nat} {o : α} (e : s[i]? = some o) : i < s.length := (List.getElem?_eq_some_iff.mp e).1
theorem set_get {s : List O} {k : Nat} {o o' : O} (e : s[k]? = some o') : (s.set k o)[k]? = some o := by
  rw [List.getElem?_set_self (lt_of_get e)]
theorem set_get_ne {s : List O} {k j : Nat} {o o' : O} (hn : j ≠ k) (e : s[j]? = some o') : (s.set k o)[j]? = some o' := by
  rw [List.getElem?_set_ne (Ne.symm hn)]; exact e
theorem push_get {s : List O} {o o' : O} {j : Nat} (e : s[j]? = some o') : (s ++ [o])[j]? = some o' := by
  rw [List.getElem?_append_left (lt_of_get e)]; exact e
theorem push_new {s : List O} {o : O} : (s ++ [o])[s.length]? = some o := by simp

theorem go_ift {st st1 : St} {t : BW} {s r : SW} {Q : Fl → St → Prop} {v : Bool} (ht : BVal t st v st1) (hv : v = true) (h : s st1 Q) : sIf t s r st Q := ht _ (by subst hv; exact h)
theorem go_iff {st st1 : St} {t : BW} {s r : SW} {Q : Fl → St → Prop} {v : Bool} (ht : BVal t st v st1) (hv : v = false) (h : r st1 Q) : sIf t s r st Q := ht _ (by subst hv; exact h)

theorem go_append {o : String} {a : EW} {k : Nat} {xs : List V} {Y : V} {st : St} {Q : Fl → St → Prop} (ho : st.loc o = some (.ref k)) (ha : EVal a st Y st) (hk : st.sto[k]? = some (.list xs)) (hn : st.nb ≤ k) (hl : xs.length ≤ 16777216) (h : Q .next (st.upd k (.list (xs ++ [Y])))) :
    sExpr (wMethL (wName o) (lCons a lNil) cAppend) st Q := go_expr (EVal.methL (EVal.name ho) hk (LVal.cons ha LVal.nil) (CVal.append hk hn hl)) h
structure PI (base : List O) (k N : Nat) (s : St) (p : Ps) (r : T) : Prop where
  nb : s.nb = base.length
  pre : Pre base s.sto
  res : s.loc "res" = some (.ref k)
  hk : base.length ≤ k
  obj : s.sto[k]? = some (.list (p.res.map .str))
  part : s.loc "part" = some (.str p.part)
  esc : s.loc "escape" = some (.bool p.esc)
  quo : s.loc "quote" = some (.bool p.quo)
  len : p.part.length + r.length ≤ N ∧ p.res.length + r.length ≤ N
theorem parse_step {base : List O} {k N : Nat} {s : St} {p : Ps} {c : Nat} {r : T} {Q : Fl → St → Prop} (hN : N ≤ 1000000) (I : PI base k N s p (c :: r)) (h : ∀ s', PI base k N s' (pstep p c) r → Q .next s') (h' : ∀ s', PI base k N s' (pstep p c) r → Q .cont s') :
    wparse_http_list_for1 (s.set "cur" (.str [c])) Q := by
  have e1 : ([c] == sl "\\") = decide (c = 92) := by
    have : sl "\\" = [92] := by decide +kernel
    rw [this]; by_cases h : c = 92 <;> simp [h]
  have e2 : ([c] == sl "\"") = decide (c = 34) := by
    have : sl "\"" = [34] := by decide +kernel
    rw [this]; by_cases h : c = 34 <;> simp [h]
  have e3 : ([c] == sl ",") = decide (c = 44) := by
    have : sl "," = [44] := by decide +kernel
    rw [this]; by_cases h : c = 44 <;> simp [h]
  obtain ⟨inb, ipre, ires, ihk, iobj, ipart, iesc, iquo, ilen⟩ := I
  have ilen1 := ilen.1
  have ilen2 := ilen.2
  rw [List.length_cons] at ilen1 ilen2
  obtain ⟨pres, ppart, pesc, pquo⟩ := p
  simp only at iobj ipart iesc iquo ilen1 ilen2
  have lc : [c].length = 1 := rfl
  unfold wparse_http_list_for1
  refine go_cons ?_
  cases pesc with
  | true =>
    have es : pstep ⟨pres, ppart, true, pquo⟩ c = ⟨pres, ppart ++ [c], false, pquo⟩ := by simp [pstep]
    rw [es] at h h'
    refine go_ift (by repeat (first | (first | with_reducible exact EVal.const | (with_reducible apply EVal.name; (first | with_reducible assumption | with_reducible exact St.get_same | (with_reducible apply St.get_int; omega) | ((with_reducible (repeat (first | (apply St.get_ne; decide) | apply St.get_push | apply St.get_upd))); (first | with_reducible assumption | with_reducible exact St.get_same | (with_reducible apply St.get_int; omega))))) | with_reducible apply EVal.bin | with_reducible exact bop_addi | with_reducible exact bop_subi | with_reducible exact iop_addi | (with_reducible apply bop_mod; decide) | (with_reducible apply bop_add; omega) | (with_reducible apply iop_add; omega) | with_reducible apply BVal.cmp | ((with_reducible show cop _ _ _ = some _); rfl) | with_reducible apply BVal.not | with_reducible apply BVal.ne | with_reducible apply BVal.notIn | with_reducible apply BVal.inTwo | with_reducible apply BVal.val | ((with_reducible show tru _ (V.bool _) = some _); rfl) | (with_reducible apply tru_str; omega) | with_reducible exact PVal.no | with_reducible apply PVal.so | with_reducible apply EVal.item | with_reducible exact LVal.nil | with_reducible apply LVal.cons | with_reducible apply EVal.call) | with_reducible apply go_cons | with_reducible apply go_nil | with_reducible apply go_next | with_reducible apply go_kret | with_reducible apply go_kbrk | with_reducible apply go_kcont | with_reducible apply go_t | with_reducible apply go_f | with_reducible apply go_fl | with_reducible apply go_ret | with_reducible apply go_expr | with_reducible apply go_assert | with_reducible apply go_assign | with_reducible apply go_assign2 | with_reducible apply go_pair | (with_reducible apply go_aug; (first | with_reducible assumption | with_reducible exact St.get_same | (with_reducible apply St.get_int; omega) | ((with_reducible (repeat (first | (apply St.get_ne; decide) | apply St.get_push | apply St.get_upd))); (first | with_reducible assumption | with_reducible exact St.get_same | (with_reducible apply St.get_int; omega))))))) rfl ?_
    repeat (first | (first | with_reducible exact EVal.const | (with_reducible apply EVal.name; (first | with_reducible assumption | with_reducible exact St.get_same | (with_reducible apply St.get_int; omega) | ((with_reducible (repeat (first | (apply St.get_ne; decide) | apply St.get_push | apply St.get_upd))); (first | with_reducible assumption | with_reducible exact St.get_same | (with_reducible apply St.get_int; omega))))) | with_reducible apply EVal.bin | with_reducible exact bop_addi | with_reducible exact bop_subi | with_reducible exact iop_addi | (with_reducible apply bop_mod; decide) | (with_reducible apply bop_add; omega) | (with_reducible apply iop_add; omega) | with_reducible apply BVal.cmp | ((with_reducible show cop _ _ _ = some _); rfl) | with_reducible apply BVal.not | with_reducible apply BVal.ne | with_reducible apply BVal.notIn | with_reducible apply BVal.inTwo | with_reducible apply BVal.val | ((with_reducible show tru _ (V.bool _) = some _); rfl) | (with_reducible apply tru_str; omega) | with_reducible exact PVal.no | with_reducible apply PVal.so | with_reducible apply EVal.item | with_reducible exact LVal.nil | with_reducible apply LVal.cons | with_reducible apply EVal.call) | with_reducible apply go_cons | with_reducible apply go_nil | with_reducible apply go_next | with_reducible apply go_kret | with_reducible apply go_kbrk | with_reducible apply go_kcont | with_reducible apply go_t | with_reducible apply go_f | with_reducible apply go_fl | with_reducible apply go_ret | with_reducible apply go_expr | with_reducible apply go_assert | with_reducible apply go_assign | with_reducible apply go_assign2 | with_reducible apply go_pair | (with_reducible apply go_aug; (first | with_reducible assumption | with_reducible exact St.get_same | (with_reducible apply St.get_int; omega) | ((with_reducible (repeat (first | (apply St.get_ne; decide) | apply St.get_push | apply St.get_upd))); (first | with_reducible assumption | with_reducible exact St.get_same | (with_reducible apply St.get_int; omega))))))
    exact h' _ ⟨inb, ipre, by (first | with_reducible assumption | with_reducible exact St.get_same | (with_reducible apply St.get_int; omega) | ((with_reducible (repeat (first | (apply St.get_ne; decide) | apply St.get_push | apply St.get_upd))); (first | with_reducible assumption | with_reducible exact St.get_same | (with_reducible apply St.get_int; omega)))), ihk, iobj, by (first | with_reducible assumption | with_reducible exact St.get_same | (with_reducible apply St.get_int; omega) | ((with_reducible (repeat (first | (apply St.get_ne; decide) | apply St.get_push | apply St.get_upd))); (first | with_reducible assumption | with_reducible exact St.get_same | (with_reducible apply St.get_int; omega)))), by (first | with_reducible assumption | with_reducible exact St.get_same | (with_reducible apply St.get_int; omega) | ((with_reducible (repeat (first | (apply St.get_ne; decide) | apply St.get_push | apply St.get_upd))); (first | with_reducible assumption | with_reducible exact St.get_same | (with_reducible apply St.get_int; omega)))), by (first | with_reducible assumption | with_reducible exact St.get_same | (with_reducible apply St.get_int; omega) | ((with_reducible (repeat (first | (apply St.get_ne; decide) | apply St.get_push | apply St.get_upd))); (first | with_reducible assumption | with_reducible exact St.get_same | (with_reducible apply St.get_int; omega)))), by simp; omega⟩
  | false =>
    refine go_iff (by repeat (first | (first | with_reducible exact EVal.const | (with_reducible apply EVal.name; (first | with_reducible assumption | with_reducible exact St.get_same | (with_reducible apply St.get_int; omega) | ((with_reducible (repeat (first | (apply St.get_ne; decide) | apply St.get_push | apply St.get_upd))); (first | with_reducible assumption | with_reducible exact St.get_same | (with_reducible apply St.get_int; omega))))) | with_reducible apply EVal.bin | with_reducible exact bop_addi | with_reducible exact bop_subi | with_reducible exact iop_addi | (with_reducible apply bop_mod; decide) | (with_reducible apply bop_add; omega) | (with_reducible apply iop_add; omega) | with_reducible apply BVal.cmp | ((with_reducible show cop _ _ _ = some _); rfl) | with_reducible apply BVal.not | with_reducible apply BVal.ne | with_reducible apply BVal.notIn | with_reducible apply BVal.inTwo | with_reducible apply BVal.val | ((with_reducible show tru _ (V.bool _) = some _); rfl) | (with_reducible apply tru_str; omega) | with_reducible exact PVal.no | with_reducible apply PVal.so | with_reducible apply EVal.item | with_reducible exact LVal.nil | with_reducible apply LVal.cons | with_reducible apply EVal.call) | with_reducible apply go_cons | with_reducible apply go_nil | with_reducible apply go_next | with_reducible apply go_kret | with_reducible apply go_kbrk | with_reducible apply go_kcont | with_reducible apply go_t | with_reducible apply go_f | with_reducible apply go_fl | with_reducible apply go_ret | with_reducible apply go_expr | with_reducible apply go_assert | with_reducible apply go_assign | with_reducible apply go_assign2 | with_reducible apply go_pair | (with_reducible apply go_aug; (first | with_reducible assumption | with_reducible exact St.get_same | (with_reducible apply St.get_int; omega) | ((with_reducible (repeat (first | (apply St.get_ne; decide) | apply St.get_push | apply St.get_upd))); (first | with_reducible assumption | with_reducible exact St.get_same | (with_reducible apply St.get_int; omega))))))) rfl ?_
    refine go_nil (go_next (go_cons ?_))
    cases pquo with
    | true =>
      refine go_ift (by repeat (first | (first | with_reducible exact EVal.const | (with_reducible apply EVal.name; (first | with_reducible assumption | with_reducible exact St.get_same | (with_reducible apply St.get_int; omega) | ((with_reducible (repeat (first | (apply St.get_ne; decide) | apply St.get_push | apply St.get_upd))); (first | with_reducible assumption | with_reducible exact St.get_same | (with_reducible apply St.get_int; omega))))) | with_reducible apply EVal.bin | with_reducible exact bop_addi | with_reducible exact bop_subi | with_reducible exact iop_addi | (with_reducible apply bop_mod; decide) | (with_reducible apply bop_add; omega) | (with_reducible apply iop_add; omega) | with_reducible apply BVal.cmp | ((with_reducible show cop _ _ _ = some _); rfl) | with_reducible apply BVal.not | with_reducible apply BVal.ne | with_reducible apply BVal.notIn | with_reducible apply BVal.inTwo | with_reducible apply BVal.val | ((with_reducible show tru _ (V.bool _) = some _); rfl) | (with_reducible apply tru_str; omega) | with_reducible exact PVal.no | with_reducible apply PVal.so | with_reducible apply EVal.item | with_reducible exact LVal.nil | with_reducible apply LVal.cons | with_reducible apply EVal.call) | with_reducible apply go_cons | with_reducible apply go_nil | with_reducible apply go_next | with_reducible apply go_kret | with_reducible apply go_kbrk | with_reducible apply go_kcont | with_reducible apply go_t | with_reducible apply go_f | with_reducible apply go_fl | with_reducible apply go_ret | with_reducible apply go_expr | with_reducible apply go_assert | with_reducible apply go_assign | with_reducible apply go_assign2 | with_reducible apply go_pair | (with_reducible apply go_aug; (first | with_reducible assumption | with_reducible exact St.get_same | (with_reducible apply St.get_int; omega) | ((with_reducible (repeat (first | (apply St.get_ne; decide) | apply St.get_push | apply St.get_upd))); (first | with_reducible assumption | with_reducible exact St.get_same | (with_reducible apply St.get_int; omega))))))) rfl (go_cons ?_)
      by_cases c1 : c = 92
      · have es : pstep ⟨pres, ppart, false, true⟩ c = ⟨pres, ppart, true, true⟩ := by simp [pstep, c1]
        rw [es] at h h'
        refine go_ift (by repeat (first | (first | with_reducible exact EVal.const | (with_reducible apply EVal.name; (first | with_reducible assumption | with_reducible exact St.get_same | (with_reducible apply St.get_int; omega) | ((with_reducible (repeat (first | (apply St.get_ne; decide) | apply St.get_push | apply St.get_upd))); (first | with_reducible assumption | with_reducible exact St.get_same | (with_reducible apply St.get_int; omega))))) | with_reducible apply EVal.bin | with_reducible exact bop_addi | with_reducible exact bop_subi | with_reducible exact iop_addi | (with_reducible apply bop_mod; decide) | (with_reducible apply bop_add; omega) | (with_reducible apply iop_add; omega) | with_reducible apply BVal.cmp | ((with_reducible show cop _ _ _ = some _); rfl) | with_reducible apply BVal.not | with_reducible apply BVal.ne | with_reducible apply BVal.notIn | with_reducible apply BVal.inTwo | with_reducible apply BVal.val | ((with_reducible show tru _ (V.bool _) = some _); rfl) | (with_reducible apply tru_str; omega) | with_reducible exact PVal.no | with_reducible apply PVal.so | with_reducible apply EVal.item | with_reducible exact LVal.nil | with_reducible apply LVal.cons | with_reducible apply EVal.call) | with_reducible apply go_cons | with_reducible apply go_nil | with_reducible apply go_next | with_reducible apply go_kret | with_reducible apply go_kbrk | with_reducible apply go_kcont | with_reducible apply go_t | with_reducible apply go_f | with_reducible apply go_fl | with_reducible apply go_ret | with_reducible apply go_expr | with_reducible apply go_assert | with_reducible apply go_assign | with_reducible apply go_assign2 | with_reducible apply go_pair | (with_reducible apply go_aug; (first | with_reducible assumption | with_reducible exact St.get_same | (with_reducible apply St.get_int; omega) | ((with_reducible (repeat (first | (apply St.get_ne; decide) | apply St.get_push | apply St.get_upd))); (first | with_reducible assumption | with_reducible exact St.get_same | (with_reducible apply St.get_int; omega))))))) (by rw [e1]; simp [c1]) ?_
        repeat (first | (first | with_reducible exact EVal.const | (with_reducible apply EVal.name; (first | with_reducible assumption | with_reducible exact St.get_same | (with_reducible apply St.get_int; omega) | ((with_reducible (repeat (first | (apply St.get_ne; decide) | apply St.get_push | apply St.get_upd))); (first | with_reducible assumption | with_reducible exact St.get_same | (with_reducible apply St.get_int; omega))))) | with_reducible apply EVal.bin | with_reducible exact bop_addi | with_reducible exact bop_subi | with_reducible exact iop_addi | (with_reducible apply bop_mod; decide) | (with_reducible apply bop_add; omega) | (with_reducible apply iop_add; omega) | with_reducible apply BVal.cmp | ((with_reducible show cop _ _ _ = some _); rfl) | with_reducible apply BVal.not | with_reducible apply BVal.ne | with_reducible apply BVal.notIn | with_reducible apply BVal.inTwo | with_reducible apply BVal.val | ((with_reducible show tru _ (V.bool _) = some _); rfl) | (with_reducible apply tru_str; omega) | with_reducible exact PVal.no | with_reducible apply PVal.so | with_reducible apply EVal.item | with_reducible exact LVal.nil | with_reducible apply LVal.cons | with_reducible apply EVal.call) | with_reducible apply go_cons | with_reducible apply go_nil | with_reducible apply go_next | with_reducible apply go_kret | with_reducible apply go_kbrk | with_reducible apply go_kcont | with_reducible apply go_t | with_reducible apply go_f | with_reducible apply go_fl | with_reducible apply go_ret | with_reducible apply go_expr | with_reducible apply go_assert | with_reducible apply go_assign | with_reducible apply go_assign2 | with_reducible apply go_pair | (with_reducible apply go_aug; (first | with_reducible assumption | with_reducible exact St.get_same | (with_reducible apply St.get_int; omega) | ((with_reducible (repeat (first | (apply St.get_ne; decide) | apply St.get_push | apply St.get_upd))); (first | with_reducible assumption | with_reducible exact St.get_same | (with_reducible apply St.get_int; omega))))))
        exact h' _ ⟨inb, ipre, by (first | with_reducible assumption | with_reducible exact St.get_same | (with_reducible apply St.get_int; omega) | ((with_reducible (repeat (first | (apply St.get_ne; decide) | apply St.get_push | apply St.get_upd))); (first | with_reducible assumption | with_reducible exact St.get_same | (with_reducible apply St.get_int; omega)))), ihk, iobj, by (first | with_reducible assumption | with_reducible exact St.get_same | (with_reducible apply St.get_int; omega) | ((with_reducible (repeat (first | (apply St.get_ne; decide) | apply St.get_push | apply St.get_upd))); (first | with_reducible assumption | with_reducible exact St.get_same | (with_reducible apply St.get_int; omega)))), by (first | with_reducible assumption | with_reducible exact St.get_same | (with_reducible apply St.get_int; omega) | ((with_reducible (repeat (first | (apply St.get_ne; decide) | apply St.get_push | apply St.get_upd))); (first | with_reducible assumption | with_reducible exact St.get_same | (with_reducible apply St.get_int; omega)))), by (first | with_reducible assumption | with_reducible exact St.get_same | (with_reducible apply St.get_int; omega) | ((with_reducible (repeat (first | (apply St.get_ne; decide) | apply St.get_push | apply St.get_upd))); (first | with_reducible assumption | with_reducible exact St.get_same | (with_reducible apply St.get_int; omega)))), by simp; omega⟩
      · have es : pstep ⟨pres, ppart, false, true⟩ c = ⟨pres, ppart ++ [c], false, decide (c ≠ 34)⟩ := by simp [pstep, c1]
        rw [es] at h h'
        refine go_iff (by repeat (first | (first | with_reducible exact EVal.const | (with_reducible apply EVal.name; (first | with_reducible assumption | with_reducible exact St.get_same | (with_reducible apply St.get_int; omega) | ((with_reducible (repeat (first | (apply St.get_ne; decide) | apply St.get_push | apply St.get_upd))); (first | with_reducible assumption | with_reducible exact St.get_same | (with_reducible apply St.get_int; omega))))) | with_reducible apply EVal.bin | with_reducible exact bop_addi | with_reducible exact bop_subi | with_reducible exact iop_addi | (with_reducible apply bop_mod; decide) | (with_reducible apply bop_add; omega) | (with_reducible apply iop_add; omega) | with_reducible apply BVal.cmp | ((with_reducible show cop _ _ _ = some _); rfl) | with_reducible apply BVal.not | with_reducible apply BVal.ne | with_reducible apply BVal.notIn | with_reducible apply BVal.inTwo | with_reducible apply BVal.val | ((with_reducible show tru _ (V.bool _) = some _); rfl) | (with_reducible apply tru_str; omega) | with_reducible exact PVal.no | with_reducible apply PVal.so | with_reducible apply EVal.item | with_reducible exact LVal.nil | with_reducible apply LVal.cons | with_reducible apply EVal.call) | with_reducible apply go_cons | with_reducible apply go_nil | with_reducible apply go_next | with_reducible apply go_kret | with_reducible apply go_kbrk | with_reducible apply go_kcont | with_reducible apply go_t | with_reducible apply go_f | with_reducible apply go_fl | with_reducible apply go_ret | with_reducible apply go_expr | with_reducible apply go_assert | with_reducible apply go_assign | with_reducible apply go_assign2 | with_reducible apply go_pair | (with_reducible apply go_aug; (first | with_reducible assumption | with_reducible exact St.get_same | (with_reducible apply St.get_int; omega) | ((with_reducible (repeat (first | (apply St.get_ne; decide) | apply St.get_push | apply St.get_upd))); (first | with_reducible assumption | with_reducible exact St.get_same | (with_reducible apply St.get_int; omega))))))) (by rw [e1]; simp [c1]) (go_cons ?_)
        by_cases c2 : c = 34
        · refine go_ift (by repeat (first | (first | with_reducible exact EVal.const | (with_reducible apply EVal.name; (first | with_reducible assumption | with_reducible exact St.get_same | (with_reducible apply St.get_int; omega) | ((with_reducible (repeat (first | (apply St.get_ne; decide) | apply St.get_push | apply St.get_upd))); (first | with_reducible assumption | with_reducible exact St.get_same | (with_reducible apply St.get_int; omega))))) | with_reducible apply EVal.bin | with_reducible exact bop_addi | with_reducible exact bop_subi | with_reducible exact iop_addi | (with_reducible apply bop_mod; decide) | (with_reducible apply bop_add; omega) | (with_reducible apply iop_add; omega) | with_reducible apply BVal.cmp | ((with_reducible show cop _ _ _ = some _); rfl) | with_reducible apply BVal.not | with_reducible apply BVal.ne | with_reducible apply BVal.notIn | with_reducible apply BVal.inTwo | with_reducible apply BVal.val | ((with_reducible show tru _ (V.bool _) = some _); rfl) | (with_reducible apply tru_str; omega) | with_reducible exact PVal.no | with_reducible apply PVal.so | with_reducible apply EVal.item | with_reducible exact LVal.nil | with_reducible apply LVal.cons | with_reducible apply EVal.call) | with_reducible apply go_cons | with_reducible apply go_nil | with_reducible apply go_next | with_reducible apply go_kret | with_reducible apply go_kbrk | with_reducible apply go_kcont | with_reducible apply go_t | with_reducible apply go_f | with_reducible apply go_fl | with_reducible apply go_ret | with_reducible apply go_expr | with_reducible apply go_assert | with_reducible apply go_assign | with_reducible apply go_assign2 | with_reducible apply go_pair | (with_reducible apply go_aug; (first | with_reducible assumption | with_reducible exact St.get_same | (with_reducible apply St.get_int; omega) | ((with_reducible (repeat (first | (apply St.get_ne; decide) | apply St.get_push | apply St.get_upd))); (first | with_reducible assumption | with_reducible exact St.get_same | (with_reducible apply St.get_int; omega))))))) (by rw [e2]; simp [c2]) ?_
          repeat (first | (first | with_reducible exact EVal.const | (with_reducible apply EVal.name; (first | with_reducible assumption | with_reducible exact St.get_same | (with_reducible apply St.get_int; omega) | ((with_reducible (repeat (first | (apply St.get_ne; decide) | apply St.get_push | apply St.get_upd))); (first | with_reducible assumption | with_reducible exact St.get_same | (with_reducible apply St.get_int; omega))))) | with_reducible apply EVal.bin | with_reducible exact bop_addi | with_reducible exact bop_subi | with_reducible exact iop_addi | (with_reducible apply bop_mod; decide) | (with_reducible apply bop_add; omega) | (with_reducible apply iop_add; omega) | with_reducible apply BVal.cmp | ((with_reducible show cop _ _ _ = some _); rfl) | with_reducible apply BVal.not | with_reducible apply BVal.ne | with_reducible apply BVal.notIn | with_reducible apply BVal.inTwo | with_reducible apply BVal.val | ((with_reducible show tru _ (V.bool _) = some _); rfl) | (with_reducible apply tru_str; omega) | with_reducible exact PVal.no | with_reducible apply PVal.so | with_reducible apply EVal.item | with_reducible exact LVal.nil | with_reducible apply LVal.cons | with_reducible apply EVal.call) | with_reducible apply go_cons | with_reducible apply go_nil | with_reducible apply go_next | with_reducible apply go_kret | with_reducible apply go_kbrk | with_reducible apply go_kcont | with_reducible apply go_t | with_reducible apply go_f | with_reducible apply go_fl | with_reducible apply go_ret | with_reducible apply go_expr | with_reducible apply go_assert | with_reducible apply go_assign | with_reducible apply go_assign2 | with_reducible apply go_pair | (with_reducible apply go_aug; (first | with_reducible assumption | with_reducible exact St.get_same | (with_reducible apply St.get_int; omega) | ((with_reducible (repeat (first | (apply St.get_ne; decide) | apply St.get_push | apply St.get_upd))); (first | with_reducible assumption | with_reducible exact St.get_same | (with_reducible apply St.get_int; omega))))))
          exact h' _ ⟨inb, ipre, by (first | with_reducible assumption | with_reducible exact St.get_same | (with_reducible apply St.get_int; omega) | ((with_reducible (repeat (first | (apply St.get_ne; decide) | apply St.get_push | apply St.get_upd))); (first | with_reducible assumption | with_reducible exact St.get_same | (with_reducible apply St.get_int; omega)))), ihk, iobj, by (first | with_reducible assumption | with_reducible exact St.get_same | (with_reducible apply St.get_int; omega) | ((with_reducible (repeat (first | (apply St.get_ne; decide) | apply St.get_push | apply St.get_upd))); (first | with_reducible assumption | with_reducible exact St.get_same | (with_reducible apply St.get_int; omega)))), by (first | with_reducible assumption | with_reducible exact St.get_same | (with_reducible apply St.get_int; omega) | ((with_reducible (repeat (first | (apply St.get_ne; decide) | apply St.get_push | apply St.get_upd))); (first | with_reducible assumption | with_reducible exact St.get_same | (with_reducible apply St.get_int; omega)))), by simp [c2]; (first | with_reducible assumption | with_reducible exact St.get_same | (with_reducible apply St.get_int; omega) | ((with_reducible (repeat (first | (apply St.get_ne; decide) | apply St.get_push | apply St.get_upd))); (first | with_reducible assumption | with_reducible exact St.get_same | (with_reducible apply St.get_int; omega)))), by simp; omega⟩
        · refine go_iff (by repeat (first | (first | with_reducible exact EVal.const | (with_reducible apply EVal.name; (first | with_reducible assumption | with_reducible exact St.get_same | (with_reducible apply St.get_int; omega) | ((with_reducible (repeat (first | (apply St.get_ne; decide) | apply St.get_push | apply St.get_upd))); (first | with_reducible assumption | with_reducible exact St.get_same | (with_reducible apply St.get_int; omega))))) | with_reducible apply EVal.bin | with_reducible exact bop_addi | with_reducible exact bop_subi | with_reducible exact iop_addi | (with_reducible apply bop_mod; decide) | (with_reducible apply bop_add; omega) | (with_reducible apply iop_add; omega) | with_reducible apply BVal.cmp | ((with_reducible show cop _ _ _ = some _); rfl) | with_reducible apply BVal.not | with_reducible apply BVal.ne | with_reducible apply BVal.notIn | with_reducible apply BVal.inTwo | with_reducible apply BVal.val | ((with_reducible show tru _ (V.bool _) = some _); rfl) | (with_reducible apply tru_str; omega) | with_reducible exact PVal.no | with_reducible apply PVal.so | with_reducible apply EVal.item | with_reducible exact LVal.nil | with_reducible apply LVal.cons | with_reducible apply EVal.call) | with_reducible apply go_cons | with_reducible apply go_nil | with_reducible apply go_next | with_reducible apply go_kret | with_reducible apply go_kbrk | with_reducible apply go_kcont | with_reducible apply go_t | with_reducible apply go_f | with_reducible apply go_fl | with_reducible apply go_ret | with_reducible apply go_expr | with_reducible apply go_assert | with_reducible apply go_assign | with_reducible apply go_assign2 | with_reducible apply go_pair | (with_reducible apply go_aug; (first | with_reducible assumption | with_reducible exact St.get_same | (with_reducible apply St.get_int; omega) | ((with_reducible (repeat (first | (apply St.get_ne; decide) | apply St.get_push | apply St.get_upd))); (first | with_reducible assumption | with_reducible exact St.get_same | (with_reducible apply St.get_int; omega))))))) (by rw [e2]; simp [c2]) ?_
          repeat (first | (first | with_reducible exact EVal.const | (with_reducible apply EVal.name; (first | with_reducible assumption | with_reducible exact St.get_same | (with_reducible apply St.get_int; omega) | ((with_reducible (repeat (first | (apply St.get_ne; decide) | apply St.get_push | apply St.get_upd))); (first | with_reducible assumption | with_reducible exact St.get_same | (with_reducible apply St.get_int; omega))))) | with_reducible apply EVal.bin | with_reducible exact bop_addi | with_reducible exact bop_subi | with_reducible exact iop_addi | (with_reducible apply bop_mod; decide) | (with_reducible apply bop_add; omega) | (with_reducible apply iop_add; omega) | with_reducible apply BVal.cmp | ((with_reducible show cop _ _ _ = some _); rfl) | with_reducible apply BVal.not | with_reducible apply BVal.ne | with_reducible apply BVal.notIn | with_reducible apply BVal.inTwo | with_reducible apply BVal.val | ((with_reducible show tru _ (V.bool _) = some _); rfl) | (with_reducible apply tru_str; omega) | with_reducible exact PVal.no | with_reducible apply PVal.so | with_reducible apply EVal.item | with_reducible exact LVal.nil | with_reducible apply LVal.cons | with_reducible apply EVal.call) | with_reducible apply go_cons | with_reducible apply go_nil | with_reducible apply go_next | with_reducible apply go_kret | with_reducible apply go_kbrk | with_reducible apply go_kcont | with_reducible apply go_t | with_reducible apply go_f | with_reducible apply go_fl | with_reducible apply go_ret | with_reducible apply go_expr | with_reducible apply go_assert | with_reducible apply go_assign | with_reducible apply go_assign2 | with_reducible apply go_pair | (with_reducible apply go_aug; (first | with_reducible assumption | with_reducible exact St.get_same | (with_reducible apply St.get_int; omega) | ((with_reducible (repeat (first | (apply St.get_ne; decide) | apply St.get_push | apply St.get_upd))); (first | with_reducible assumption | with_reducible exact St.get_same | (with_reducible apply St.get_int; omega))))))
          exact h' _ ⟨inb, ipre, by (first | with_reducible assumption | with_reducible exact St.get_same | (with_reducible apply St.get_int; omega) | ((with_reducible (repeat (first | (apply St.get_ne; decide) | apply St.get_push | apply St.get_upd))); (first | with_reducible assumption | with_reducible exact St.get_same | (with_reducible apply St.get_int; omega)))), ihk, iobj, by (first | with_reducible assumption | with_reducible exact St.get_same | (with_reducible apply St.get_int; omega) | ((with_reducible (repeat (first | (apply St.get_ne; decide) | apply St.get_push | apply St.get_upd))); (first | with_reducible assumption | with_reducible exact St.get_same | (with_reducible apply St.get_int; omega)))), by (first | with_reducible assumption | with_reducible exact St.get_same | (with_reducible apply St.get_int; omega) | ((with_reducible (repeat (first | (apply St.get_ne; decide) | apply St.get_push | apply St.get_upd))); (first | with_reducible assumption | with_reducible exact St.get_same | (with_reducible apply St.get_int; omega)))), by simp [c2]; (first | with_reducible assumption | with_reducible exact St.get_same | (with_reducible apply St.get_int; omega) | ((with_reducible (repeat (first | (apply St.get_ne; decide) | apply St.get_push | apply St.get_upd))); (first | with_reducible assumption | with_reducible exact St.get_same | (with_reducible apply St.get_int; omega)))), by simp; omega⟩
    | false =>
      refine go_iff (by repeat (first | (first | with_reducible exact EVal.const | (with_reducible apply EVal.name; (first | with_reducible assumption | with_reducible exact St.get_same | (with_reducible apply St.get_int; omega) | ((with_reducible (repeat (first | (apply St.get_ne; decide) | apply St.get_push | apply St.get_upd))); (first | with_reducible assumption | with_reducible exact St.get_same | (with_reducible apply St.get_int; omega))))) | with_reducible apply EVal.bin | with_reducible exact bop_addi | with_reducible exact bop_subi | with_reducible exact iop_addi | (with_reducible apply bop_mod; decide) | (with_reducible apply bop_add; omega) | (with_reducible apply iop_add; omega) | with_reducible apply BVal.cmp | ((with_reducible show cop _ _ _ = some _); rfl) | with_reducible apply BVal.not | with_reducible apply BVal.ne | with_reducible apply BVal.notIn | with_reducible apply BVal.inTwo | with_reducible apply BVal.val | ((with_reducible show tru _ (V.bool _) = some _); rfl) | (with_reducible apply tru_str; omega) | with_reducible exact PVal.no | with_reducible apply PVal.so | with_reducible apply EVal.item | with_reducible exact LVal.nil | with_reducible apply LVal.cons | with_reducible apply EVal.call) | with_reducible apply go_cons | with_reducible apply go_nil | with_reducible apply go_next | with_reducible apply go_kret | with_reducible apply go_kbrk | with_reducible apply go_kcont | with_reducible apply go_t | with_reducible apply go_f | with_reducible apply go_fl | with_reducible apply go_ret | with_reducible apply go_expr | with_reducible apply go_assert | with_reducible apply go_assign | with_reducible apply go_assign2 | with_reducible apply go_pair | (with_reducible apply go_aug; (first | with_reducible assumption | with_reducible exact St.get_same | (with_reducible apply St.get_int; omega) | ((with_reducible (repeat (first | (apply St.get_ne; decide) | apply St.get_push | apply St.get_upd))); (first | with_reducible assumption | with_reducible exact St.get_same | (with_reducible apply St.get_int; omega))))))) rfl ?_
      refine go_nil (go_next (go_cons ?_))
      by_cases c3 : c = 44
      · have es : pstep ⟨pres, ppart, false, false⟩ c = ⟨pres ++ [ppart], [], false, false⟩ := by simp [pstep, c3]
        rw [es] at h h'
        refine go_ift (by repeat (first | (first | with_reducible exact EVal.const | (with_reducible apply EVal.name; (first | with_reducible assumption | with_reducible exact St.get_same | (with_reducible apply St.get_int; omega) | ((with_reducible (repeat (first | (apply St.get_ne; decide) | apply St.get_push | apply St.get_upd))); (first | with_reducible assumption | with_reducible exact St.get_same | (with_reducible apply St.get_int; omega))))) | with_reducible apply EVal.bin | with_reducible exact bop_addi | with_reducible exact bop_subi | with_reducible exact iop_addi | (with_reducible apply bop_mod; decide) | (with_reducible apply bop_add; omega) | (with_reducible apply iop_add; omega) | with_reducible apply BVal.cmp | ((with_reducible show cop _ _ _ = some _); rfl) | with_reducible apply BVal.not | with_reducible apply BVal.ne | with_reducible apply BVal.notIn | with_reducible apply BVal.inTwo | with_reducible apply BVal.val | ((with_reducible show tru _ (V.bool _) = some _); rfl) | (with_reducible apply tru_str; omega) | with_reducible exact PVal.no | with_reducible apply PVal.so | with_reducible apply EVal.item | with_reducible exact LVal.nil | with_reducible apply LVal.cons | with_reducible apply EVal.call) | with_reducible apply go_cons | with_reducible apply go_nil | with_reducible apply go_next | with_reducible apply go_kret | with_reducible apply go_kbrk | with_reducible apply go_kcont | with_reducible apply go_t | with_reducible apply go_f | with_reducible apply go_fl | with_reducible apply go_ret | with_reducible apply go_expr | with_reducible apply go_assert | with_reducible apply go_assign | with_reducible apply go_assign2 | with_reducible apply go_pair | (with_reducible apply go_aug; (first | with_reducible assumption | with_reducible exact St.get_same | (with_reducible apply St.get_int; omega) | ((with_reducible (repeat (first | (apply St.get_ne; decide) | apply St.get_push | apply St.get_upd))); (first | with_reducible assumption | with_reducible exact St.get_same | (with_reducible apply St.get_int; omega))))))) (by rw [e3]; simp [c3]) ?_
        refine go_cons (go_append (by (first | with_reducible assumption | with_reducible exact St.get_same | (with_reducible apply St.get_int; omega) | ((with_reducible (repeat (first | (apply St.get_ne; decide) | apply St.get_push | apply St.get_upd))); (first | with_reducible assumption | with_reducible exact St.get_same | (with_reducible apply St.get_int; omega))))) (by repeat (first | (first | with_reducible exact EVal.const | (with_reducible apply EVal.name; (first | with_reducible assumption | with_reducible exact St.get_same | (with_reducible apply St.get_int; omega) | ((with_reducible (repeat (first | (apply St.get_ne; decide) | apply St.get_push | apply St.get_upd))); (first | with_reducible assumption | with_reducible exact St.get_same | (with_reducible apply St.get_int; omega))))) | with_reducible apply EVal.bin | with_reducible exact bop_addi | with_reducible exact bop_subi | with_reducible exact iop_addi | (with_reducible apply bop_mod; decide) | (with_reducible apply bop_add; omega) | (with_reducible apply iop_add; omega) | with_reducible apply BVal.cmp | ((with_reducible show cop _ _ _ = some _); rfl) | with_reducible apply BVal.not | with_reducible apply BVal.ne | with_reducible apply BVal.notIn | with_reducible apply BVal.inTwo | with_reducible apply BVal.val | ((with_reducible show tru _ (V.bool _) = some _); rfl) | (with_reducible apply tru_str; omega) | with_reducible exact PVal.no | with_reducible apply PVal.so | with_reducible apply EVal.item | with_reducible exact LVal.nil | with_reducible apply LVal.cons | with_reducible apply EVal.call) | with_reducible apply go_cons | with_reducible apply go_nil | with_reducible apply go_next | with_reducible apply go_kret | with_reducible apply go_kbrk | with_reducible apply go_kcont | with_reducible apply go_t | with_reducible apply go_f | with_reducible apply go_fl | with_reducible apply go_ret | with_reducible apply go_expr | with_reducible apply go_assert | with_reducible apply go_assign | with_reducible apply go_assign2 | with_reducible apply go_pair | (with_reducible apply go_aug; (first | with_reducible assumption | with_reducible exact St.get_same | (with_reducible apply St.get_int; omega) | ((with_reducible (repeat (first | (apply St.get_ne; decide) | apply St.get_push | apply St.get_upd))); (first | with_reducible assumption | with_reducible exact St.get_same | (with_reducible apply St.get_int; omega))))))) iobj (by show s.nb ≤ k; omega) (by simp; omega) ?_)
        repeat (first | (first | with_reducible exact EVal.const | (with_reducible apply EVal.name; (first | with_reducible assumption | with_reducible exact St.get_same | (with_reducible apply St.get_int; omega) | ((with_reducible (repeat (first | (apply St.get_ne; decide) | apply St.get_push | apply St.get_upd))); (first | with_reducible assumption | with_reducible exact St.get_same | (with_reducible apply St.get_int; omega))))) | with_reducible apply EVal.bin | with_reducible exact bop_addi | with_reducible exact bop_subi | with_reducible exact iop_addi | (with_reducible apply bop_mod; decide) | (with_reducible apply bop_add; omega) | (with_reducible apply iop_add; omega) | with_reducible apply BVal.cmp | ((with_reducible show cop _ _ _ = some _); rfl) | with_reducible apply BVal.not | with_reducible apply BVal.ne | with_reducible apply BVal.notIn | with_reducible apply BVal.inTwo | with_reducible apply BVal.val | ((with_reducible show tru _ (V.bool _) = some _); rfl) | (with_reducible apply tru_str; omega) | with_reducible exact PVal.no | with_reducible apply PVal.so | with_reducible apply EVal.item | with_reducible exact LVal.nil | with_reducible apply LVal.cons | with_reducible apply EVal.call) | with_reducible apply go_cons | with_reducible apply go_nil | with_reducible apply go_next | with_reducible apply go_kret | with_reducible apply go_kbrk | with_reducible apply go_kcont | with_reducible apply go_t | with_reducible apply go_f | with_reducible apply go_fl | with_reducible apply go_ret | with_reducible apply go_expr | with_reducible apply go_assert | with_reducible apply go_assign | with_reducible apply go_assign2 | with_reducible apply go_pair | (with_reducible apply go_aug; (first | with_reducible assumption | with_reducible exact St.get_same | (with_reducible apply St.get_int; omega) | ((with_reducible (repeat (first | (apply St.get_ne; decide) | apply St.get_push | apply St.get_upd))); (first | with_reducible assumption | with_reducible exact St.get_same | (with_reducible apply St.get_int; omega))))))
        have e0 : sl "" = [] := by decide +kernel
        exact h' _ ⟨inb, ipre.set _ ihk, by (first | with_reducible assumption | with_reducible exact St.get_same | (with_reducible apply St.get_int; omega) | ((with_reducible (repeat (first | (apply St.get_ne; decide) | apply St.get_push | apply St.get_upd))); (first | with_reducible assumption | with_reducible exact St.get_same | (with_reducible apply St.get_int; omega)))), ihk, (set_get iobj).trans (by simp), by rw [e0]; (first | with_reducible assumption | with_reducible exact St.get_same | (with_reducible apply St.get_int; omega) | ((with_reducible (repeat (first | (apply St.get_ne; decide) | apply St.get_push | apply St.get_upd))); (first | with_reducible assumption | with_reducible exact St.get_same | (with_reducible apply St.get_int; omega)))), by (first | with_reducible assumption | with_reducible exact St.get_same | (with_reducible apply St.get_int; omega) | ((with_reducible (repeat (first | (apply St.get_ne; decide) | apply St.get_push | apply St.get_upd))); (first | with_reducible assumption | with_reducible exact St.get_same | (with_reducible apply St.get_int; omega)))), by (first | with_reducible assumption | with_reducible exact St.get_same | (with_reducible apply St.get_int; omega) | ((with_reducible (repeat (first | (apply St.get_ne; decide) | apply St.get_push | apply St.get_upd))); (first | with_reducible assumption | with_reducible exact St.get_same | (with_reducible apply St.get_int; omega)))), by simp; omega⟩
      · have es : pstep ⟨pres, ppart, false, false⟩ c = ⟨pres, ppart ++ [c], false, decide (c = 34)⟩ := by simp [pstep, c3]
        rw [es] at h h'
        refine go_iff (by repeat (first | (first | with_reducible exact EVal.const | (with_reducible apply EVal.name; (first | with_reducible assumption | with_reducible exact St.get_same | (with_reducible apply St.get_int; omega) | ((with_reducible (repeat (first | (apply St.get_ne; decide) | apply St.get_push | apply St.get_upd))); (first | with_reducible assumption | with_reducible exact St.get_same | (with_reducible apply St.get_int; omega))))) | with_reducible apply EVal.bin | with_reducible exact bop_addi | with_reducible exact bop_subi | with_reducible exact iop_addi | (with_reducible apply bop_mod; decide) | (with_reducible apply bop_add; omega) | (with_reducible apply iop_add; omega) | with_reducible apply BVal.cmp | ((with_reducible show cop _ _ _ = some _); rfl) | with_reducible apply BVal.not | with_reducible apply BVal.ne | with_reducible apply BVal.notIn | with_reducible apply BVal.inTwo | with_reducible apply BVal.val | ((with_reducible show tru _ (V.bool _) = some _); rfl) | (with_reducible apply tru_str; omega) | with_reducible exact PVal.no | with_reducible apply PVal.so | with_reducible apply EVal.item | with_reducible exact LVal.nil | with_reducible apply LVal.cons | with_reducible apply EVal.call) | with_reducible apply go_cons | with_reducible apply go_nil | with_reducible apply go_next | with_reducible apply go_kret | with_reducible apply go_kbrk | with_reducible apply go_kcont | with_reducible apply go_t | with_reducible apply go_f | with_reducible apply go_fl | with_reducible apply go_ret | with_reducible apply go_expr | with_reducible apply go_assert | with_reducible apply go_assign | with_reducible apply go_assign2 | with_reducible apply go_pair | (with_reducible apply go_aug; (first | with_reducible assumption | with_reducible exact St.get_same | (with_reducible apply St.get_int; omega) | ((with_reducible (repeat (first | (apply St.get_ne; decide) | apply St.get_push | apply St.get_upd))); (first | with_reducible assumption | with_reducible exact St.get_same | (with_reducible apply St.get_int; omega))))))) (by rw [e3]; simp [c3]) ?_
        refine go_nil (go_next (go_cons ?_))
        by_cases c2 : c = 34
        · refine go_ift (by repeat (first | (first | with_reducible exact EVal.const | (with_reducible apply EVal.name; (first | with_reducible assumption | with_reducible exact St.get_same | (with_reducible apply St.get_int; omega) | ((with_reducible (repeat (first | (apply St.get_ne; decide) | apply St.get_push | apply St.get_upd))); (first | with_reducible assumption | with_reducible exact St.get_same | (with_reducible apply St.get_int; omega))))) | with_reducible apply EVal.bin | with_reducible exact bop_addi | with_reducible exact bop_subi | with_reducible exact iop_addi | (with_reducible apply bop_mod; decide) | (with_reducible apply bop_add; omega) | (with_reducible apply iop_add; omega) | with_reducible apply BVal.cmp | ((with_reducible show cop _ _ _ = some _); rfl) | with_reducible apply BVal.not | with_reducible apply BVal.ne | with_reducible apply BVal.notIn | with_reducible apply BVal.inTwo | with_reducible apply BVal.val | ((with_reducible show tru _ (V.bool _) = some _); rfl) | (with_reducible apply tru_str; omega) | with_reducible exact PVal.no | with_reducible apply PVal.so | with_reducible apply EVal.item | with_reducible exact LVal.nil | with_reducible apply LVal.cons | with_reducible apply EVal.call) | with_reducible apply go_cons | with_reducible apply go_nil | with_reducible apply go_next | with_reducible apply go_kret | with_reducible apply go_kbrk | with_reducible apply go_kcont | with_reducible apply go_t | with_reducible apply go_f | with_reducible apply go_fl | with_reducible apply go_ret | with_reducible apply go_expr | with_reducible apply go_assert | with_reducible apply go_assign | with_reducible apply go_assign2 | with_reducible apply go_pair | (with_reducible apply go_aug; (first | with_reducible assumption | with_reducible exact St.get_same | (with_reducible apply St.get_int; omega) | ((with_reducible (repeat (first | (apply St.get_ne; decide) | apply St.get_push | apply St.get_upd))); (first | with_reducible assumption | with_reducible exact St.get_same | (with_reducible apply St.get_int; omega))))))) (by rw [e2]; simp [c2]) ?_
          repeat (first | (first | with_reducible exact EVal.const | (with_reducible apply EVal.name; (first | with_reducible assumption | with_reducible exact St.get_same | (with_reducible apply St.get_int; omega) | ((with_reducible (repeat (first | (apply St.get_ne; decide) | apply St.get_push | apply St.get_upd))); (first | with_reducible assumption | with_reducible exact St.get_same | (with_reducible apply St.get_int; omega))))) | with_reducible apply EVal.bin | with_reducible exact bop_addi | with_reducible exact bop_subi | with_reducible exact iop_addi | (with_reducible apply bop_mod; decide) | (with_reducible apply bop_add; omega) | (with_reducible apply iop_add; omega) | with_reducible apply BVal.cmp | ((with_reducible show cop _ _ _ = some _); rfl) | with_reducible apply BVal.not | with_reducible apply BVal.ne | with_reducible apply BVal.notIn | with_reducible apply BVal.inTwo | with_reducible apply BVal.val | ((with_reducible show tru _ (V.bool _) = some _); rfl) | (with_reducible apply tru_str; omega) | with_reducible exact PVal.no | with_reducible apply PVal.so | with_reducible apply EVal.item | with_reducible exact LVal.nil | with_reducible apply LVal.cons | with_reducible apply EVal.call) | with_reducible apply go_cons | with_reducible apply go_nil | with_reducible apply go_next | with_reducible apply go_kret | with_reducible apply go_kbrk | with_reducible apply go_kcont | with_reducible apply go_t | with_reducible apply go_f | with_reducible apply go_fl | with_reducible apply go_ret | with_reducible apply go_expr | with_reducible apply go_assert | with_reducible apply go_assign | with_reducible apply go_assign2 | with_reducible apply go_pair | (with_reducible apply go_aug; (first | with_reducible assumption | with_reducible exact St.get_same | (with_reducible apply St.get_int; omega) | ((with_reducible (repeat (first | (apply St.get_ne; decide) | apply St.get_push | apply St.get_upd))); (first | with_reducible assumption | with_reducible exact St.get_same | (with_reducible apply St.get_int; omega))))))
          exact h _ ⟨inb, ipre, by (first | with_reducible assumption | with_reducible exact St.get_same | (with_reducible apply St.get_int; omega) | ((with_reducible (repeat (first | (apply St.get_ne; decide) | apply St.get_push | apply St.get_upd))); (first | with_reducible assumption | with_reducible exact St.get_same | (with_reducible apply St.get_int; omega)))), ihk, iobj, by (first | with_reducible assumption | with_reducible exact St.get_same | (with_reducible apply St.get_int; omega) | ((with_reducible (repeat (first | (apply St.get_ne; decide) | apply St.get_push | apply St.get_upd))); (first | with_reducible assumption | with_reducible exact St.get_same | (with_reducible apply St.get_int; omega)))), by (first | with_reducible assumption | with_reducible exact St.get_same | (with_reducible apply St.get_int; omega) | ((with_reducible (repeat (first | (apply St.get_ne; decide) | apply St.get_push | apply St.get_upd))); (first | with_reducible assumption | with_reducible exact St.get_same | (with_reducible apply St.get_int; omega)))), by simp [c2]; (first | with_reducible assumption | with_reducible exact St.get_same | (with_reducible apply St.get_int; omega) | ((with_reducible (repeat (first | (apply St.get_ne; decide) | apply St.get_push | apply St.get_upd))); (first | with_reducible assumption | with_reducible exact St.get_same | (with_reducible apply St.get_int; omega)))), by simp; omega⟩
        · refine go_iff (by repeat (first | (first | with_reducible exact EVal.const | (with_reducible apply EVal.name; (first | with_reducible assumption | with_reducible exact St.get_same | (with_reducible apply St.get_int; omega) | ((with_reducible (repeat (first | (apply St.get_ne; decide) | apply St.get_push | apply St.get_upd))); (first | with_reducible assumption | with_reducible exact St.get_same | (with_reducible apply St.get_int; omega))))) | with_reducible apply EVal.bin | with_reducible exact bop_addi | with_reducible exact bop_subi | with_reducible exact iop_addi | (with_reducible apply bop_mod; decide) | (with_reducible apply bop_add; omega) | (with_reducible apply iop_add; omega) | with_reducible apply BVal.cmp | ((with_reducible show cop _ _ _ = some _); rfl) | with_reducible apply BVal.not | with_reducible apply BVal.ne | with_reducible apply BVal.notIn | with_reducible apply BVal.inTwo | with_reducible apply BVal.val | ((with_reducible show tru _ (V.bool _) = some _); rfl) | (with_reducible apply tru_str; omega) | with_reducible exact PVal.no | with_reducible apply PVal.so | with_reducible apply EVal.item | with_reducible exact LVal.nil | with_reducible apply LVal.cons | with_reducible apply EVal.call) | with_reducible apply go_cons | with_reducible apply go_nil | with_reducible apply go_next | with_reducible apply go_kret | with_reducible apply go_kbrk | with_reducible apply go_kcont | with_reducible apply go_t | with_reducible apply go_f | with_reducible apply go_fl | with_reducible apply go_ret | with_reducible apply go_expr | with_reducible apply go_assert | with_reducible apply go_assign | with_reducible apply go_assign2 | with_reducible apply go_pair | (with_reducible apply go_aug; (first | with_reducible assumption | with_reducible exact St.get_same | (with_reducible apply St.get_int; omega) | ((with_reducible (repeat (first | (apply St.get_ne; decide) | apply St.get_push | apply St.get_upd))); (first | with_reducible assumption | with_reducible exact St.get_same | (with_reducible apply St.get_int; omega))))))) (by rw [e2]; simp [c2]) ?_
          repeat (first | (first | with_reducible exact EVal.const | (with_reducible apply EVal.name; (first | with_reducible assumption | with_reducible exact St.get_same | (with_reducible apply St.get_int; omega) | ((with_reducible (repeat (first | (apply St.get_ne; decide) | apply St.get_push | apply St.get_upd))); (first | with_reducible assumption | with_reducible exact St.get_same | (with_reducible apply St.get_int; omega))))) | with_reducible apply EVal.bin | with_reducible exact bop_addi | with_reducible exact bop_subi | with_reducible exact iop_addi | (with_reducible apply bop_mod; decide) | (with_reducible apply bop_add; omega) | (with_reducible apply iop_add; omega) | with_reducible apply BVal.cmp | ((with_reducible show cop _ _ _ = some _); rfl) | with_reducible apply BVal.not | with_reducible apply BVal.ne | with_reducible apply BVal.notIn | with_reducible apply BVal.inTwo | with_reducible apply BVal.val | ((with_reducible show tru _ (V.bool _) = some _); rfl) | (with_reducible apply tru_str; omega) | with_reducible exact PVal.no | with_reducible apply PVal.so | with_reducible apply EVal.item | with_reducible exact LVal.nil | with_reducible apply LVal.cons | with_reducible apply EVal.call) | with_reducible apply go_cons | with_reducible apply go_nil | with_reducible apply go_next | with_reducible apply go_kret | with_reducible apply go_kbrk | with_reducible apply go_kcont | with_reducible apply go_t | with_reducible apply go_f | with_reducible apply go_fl | with_reducible apply go_ret | with_reducible apply go_expr | with_reducible apply go_assert | with_reducible apply go_assign | with_reducible apply go_assign2 | with_reducible apply go_pair | (with_reducible apply go_aug; (first | with_reducible assumption | with_reducible exact St.get_same | (with_reducible apply St.get_int; omega) | ((with_reducible (repeat (first | (apply St.get_ne; decide) | apply St.get_push | apply St.get_upd))); (first | with_reducible assumption | with_reducible exact St.get_same | (with_reducible apply St.get_int; omega))))))
          exact h _ ⟨inb, ipre, by (first | with_reducible assumption | with_reducible exact St.get_same | (with_reducible apply St.get_int; omega) | ((with_reducible (repeat (first | (apply St.get_ne; decide) | apply St.get_push | apply St.get_upd))); (first | with_reducible assumption | with_reducible exact St.get_same | (with_reducible apply St.get_int; omega)))), ihk, iobj, by (first | with_reducible assumption | with_reducible exact St.get_same | (with_reducible apply St.get_int; omega) | ((with_reducible (repeat (first | (apply St.get_ne; decide) | apply St.get_push | apply St.get_upd))); (first | with_reducible assumption | with_reducible exact St.get_same | (with_reducible apply St.get_int; omega)))), by (first | with_reducible assumption | with_reducible exact St.get_same | (with_reducible apply St.get_int; omega) | ((with_reducible (repeat (first | (apply St.get_ne; decide) | apply St.get_push | apply St.get_upd))); (first | with_reducible assumption | with_reducible exact St.get_same | (with_reducible apply St.get_int; omega)))), by simp [c2]; (first | with_reducible assumption | with_reducible exact St.get_same | (with_reducible apply St.get_int; omega) | ((with_reducible (repeat (first | (apply St.get_ne; decide) | apply St.get_push | apply St.get_upd))); (first | with_reducible assumption | with_reducible exact St.get_same | (with_reducible apply St.get_int; omega)))), by simp; omega⟩
theorem parse_loop {base : List O} {k N : Nat} {Q : Fl → St → Prop} (hN : N ≤ 1000000) : ∀ (r : T) (s : St) (p : Ps), PI base k N s p r → (∀ s', PI base k N s' (r.foldl pstep p) [] → Q .next s') → forW (fun _ => True) "cur" wparse_http_list_for1 (signs r) s Q
  | [], s, _, I, h => go_forNil trivial (h s I)
  | _ :: r, _, _, I, h => go_forCons trivial (parse_step hN I (fun s' I' => parse_loop hN r s' _ I' h) (fun s' I' => parse_loop hN r s' _ I' h))
/-- a comprehension whose element is plain -/
theorem comp_plain {k : Nat} {xs : List V} {x : String} {e : EW} {loc : String → Option V} {Q : V → St → Prop} {g : V → V} : ∀ (r acc : List V) (st : St), st.sto[k]? = some (.list xs) → (acc ++ r).length ≤ 16777216 →
    (∀ X ∈ r, ∀ s : St, s.loc x = some X → s.sto = st.sto → s.nb = st.nb → EVal e s (g X) s) → Q (.ref st.sto.length) ⟨loc, st.sto ++ [.list (acc ++ r.map g)], st.nb⟩ → compW k xs x e loc r acc st Q
  | [], acc, st, hk, hl, _, h => ⟨hk, by simpa using hl, by simpa using h⟩
  | X :: r, acc, st, hk, hl, he, h => by
    refine ⟨hk, by simp at hl; omega, ?_⟩
    refine he X (by simp) ⟨fun y => if y = x then some X else none, st.sto, st.nb⟩ (by simp) rfl rfl _ ?_
    exact comp_plain r (acc ++ [g X]) _ hk (by simp at hl ⊢; omega) (fun Y hY s h1 h2 h3 => he Y (by simp [hY]) s h1 h2 h3) (by simpa using h)
def strV : V → V
  | .str x => .str (strp x)
  | v => v
theorem EVal.comp {x : String} {a e : EW} {st st1 st2 : St} {k : Nat} {xs : List V} {X : V} (ha : EVal a st (.ref k) st1) (hk : st1.sto[k]? = some (.list xs)) (h : ∀ Q : V → St → Prop, Q X st2 → compW k xs x e st1.loc xs [] st1 Q) : EVal (wComp x a e) st X st2 :=
  fun Q q => ha _ ⟨k, xs, rfl, hk, h Q q⟩
theorem ps_len (r : T) : ∀ p : Ps, (r.foldl pstep p).part.length ≤ p.part.length + r.length ∧ (∀ t ∈ (r.foldl pstep p).res, t.length ≤ p.part.length + r.length ∨ t ∈ p.res) := by
  induction r with
  | nil => intro p; exact ⟨by simp, fun t ht => .inr ht⟩
  | cons c r ih =>
    intro p
    have h := ih (pstep p c)
    rw [List.foldl_cons, List.length_cons]
    have hp : (pstep p c).part.length ≤ p.part.length + 1 := by
      unfold pstep; split
      · simp
      · split
        · split <;> simp
        · split <;> simp
    have hr : ∀ t ∈ (pstep p c).res, t ∈ p.res ∨ t = p.part := by
      unfold pstep; split
      · intro t ht; exact .inl ht
      · split
        · split <;> (intro t ht; exact .inl ht)
        · split
          · intro t ht; simpa using ht
          · intro t ht; exact .inl ht
    refine ⟨by omega, fun t ht => ?_⟩
    rcases h.2 t ht with q | q
    · exact .inl (by omega)
    · rcases hr t q with q | q
      · exact .inr q
      · exact .inl (by rw [q]; omega)
theorem spec_parse {x : T} {st : St} {Q : V → St → Prop} (hx : x.length ≤ 100000) (h : ∀ s' r, Pre st.sto s' → s'[r]? = some (.list ((plist x).map .str)) → Q (.ref r) ⟨st.loc, s', st.nb⟩) : wparse_http_list [.str x] st Q := by
  refine go_def rfl fun s hs hnb hloc => ?_
  unfold bparse_http_list
  have hl : s.loc "s" = some (.str x) := by rw [hloc]; rfl
  refine go_cons (go_assign (EVal.list LVal.nil (by simp)) ?_)
  repeat (first | (first | with_reducible exact EVal.const | (with_reducible apply EVal.name; (first | with_reducible assumption | with_reducible exact St.get_same | (with_reducible apply St.get_int; omega) | ((with_reducible (repeat (first | (apply St.get_ne; decide) | apply St.get_push | apply St.get_upd))); (first | with_reducible assumption | with_reducible exact St.get_same | (with_reducible apply St.get_int; omega))))) | with_reducible apply EVal.bin | with_reducible exact bop_addi | with_reducible exact bop_subi | with_reducible exact iop_addi | (with_reducible apply bop_mod; decide) | (with_reducible apply bop_add; omega) | (with_reducible apply iop_add; omega) | with_reducible apply BVal.cmp | ((with_reducible show cop _ _ _ = some _); rfl) | with_reducible apply BVal.not | with_reducible apply BVal.ne | with_reducible apply BVal.notIn | with_reducible apply BVal.inTwo | with_reducible apply BVal.val | ((with_reducible show tru _ (V.bool _) = some _); rfl) | (with_reducible apply tru_str; omega) | with_reducible exact PVal.no | with_reducible apply PVal.so | with_reducible apply EVal.item | with_reducible exact LVal.nil | with_reducible apply LVal.cons | with_reducible apply EVal.call) | with_reducible apply go_cons | with_reducible apply go_nil | with_reducible apply go_next | with_reducible apply go_kret | with_reducible apply go_kbrk | with_reducible apply go_kcont | with_reducible apply go_t | with_reducible apply go_f | with_reducible apply go_fl | with_reducible apply go_ret | with_reducible apply go_expr | with_reducible apply go_assert | with_reducible apply go_assign | with_reducible apply go_assign2 | with_reducible apply go_pair | (with_reducible apply go_aug; (first | with_reducible assumption | with_reducible exact St.get_same | (with_reducible apply St.get_int; omega) | ((with_reducible (repeat (first | (apply St.get_ne; decide) | apply St.get_push | apply St.get_upd))); (first | with_reducible assumption | with_reducible exact St.get_same | (with_reducible apply St.get_int; omega))))))
  have e0 : sl "" = [] := by decide +kernel
  refine go_cons (go_for_str (EVal.name (by (first | with_reducible assumption | with_reducible exact St.get_same | (with_reducible apply St.get_int; omega) | ((with_reducible (repeat (first | (apply St.get_ne; decide) | apply St.get_push | apply St.get_upd))); (first | with_reducible assumption | with_reducible exact St.get_same | (with_reducible apply St.get_int; omega)))))) (parse_loop (base := st.sto) (k := s.sto.length) (N := 200000) (by omega) x _ ⟨[], [], false, false⟩ ?_ ?_))
  · refine ⟨hnb, ?_, by (first | with_reducible assumption | with_reducible exact St.get_same | (with_reducible apply St.get_int; omega) | ((with_reducible (repeat (first | (apply St.get_ne; decide) | apply St.get_push | apply St.get_upd))); (first | with_reducible assumption | with_reducible exact St.get_same | (with_reducible apply St.get_int; omega)))), by rw [hs]; exact Nat.le_refl _, ?_, by rw [e0]; (first | with_reducible assumption | with_reducible exact St.get_same | (with_reducible apply St.get_int; omega) | ((with_reducible (repeat (first | (apply St.get_ne; decide) | apply St.get_push | apply St.get_upd))); (first | with_reducible assumption | with_reducible exact St.get_same | (with_reducible apply St.get_int; omega)))), by (first | with_reducible assumption | with_reducible exact St.get_same | (with_reducible apply St.get_int; omega) | ((with_reducible (repeat (first | (apply St.get_ne; decide) | apply St.get_push | apply St.get_upd))); (first | with_reducible assumption | with_reducible exact St.get_same | (with_reducible apply St.get_int; omega)))), by (first | with_reducible assumption | with_reducible exact St.get_same | (with_reducible apply St.get_int; omega) | ((with_reducible (repeat (first | (apply St.get_ne; decide) | apply St.get_push | apply St.get_upd))); (first | with_reducible assumption | with_reducible exact St.get_same | (with_reducible apply St.get_int; omega)))), by simp; omega⟩
    · rw [← hs]; exact Pre.rfl'.push _
    · exact push_new
  · intro s1 I
    obtain ⟨inb, ipre, ires, ihk, iobj, ipart, iesc, iquo, ilen⟩ := I
    refine go_next (go_cons ?_)
    obtain ⟨hp1, hp2⟩ := ps_len x ⟨[], [], false, false⟩
    generalize hP : x.foldl pstep ⟨[], [], false, false⟩ = P at ipart iobj ilen hp1 hp2
    have hpl : plist x = (if P.part ≠ [] then P.res ++ [P.part] else P.res).map strp := by unfold plist; rw [hP]
    simp only [List.length_nil, Nat.zero_add, List.not_mem_nil, or_false] at hp1 hp2 ilen
    have fin : ∀ (s2 : St) (R : List T), s2.nb = st.sto.length → Pre st.sto s2.sto → s2.loc "res" = some (.ref s.sto.length) → s2.sto[s.sto.length]? = some (.list (R.map .str)) → R.length ≤ 1000000 → (∀ t ∈ R, t.length ≤ 100000) → R.map strp = plist x →
        (sCons (sRet (wComp "part" (wName "res") (wMethS0 (wName "part") cStrip))) sNil) s2 (kFn st Q) := by
      intro s2 R g1 g2 g3 g4 g5 g6 g7
      refine go_cons (go_ret (EVal.comp (EVal.name g3) g4 (fun Q' q => comp_plain (g := strV) _ [] s2 g4 (by simp; omega) (fun X hX s3 h3 h4 h5 => ?_) q)) (go_kret (go_fnret ?_)))
      · obtain ⟨t, ht, rfl⟩ := List.mem_map.mp hX
        exact EVal.methS0 (EVal.name h3) (CVal.strip (by have := g6 t ht; omega))
      · refine h _ _ (g2.push _) ?_
        rw [push_new, ← g7]
        simp [strV, Function.comp_def]
    by_cases hp : P.part = []
    · refine go_iff (by repeat (first | (first | with_reducible exact EVal.const | (with_reducible apply EVal.name; (first | with_reducible assumption | with_reducible exact St.get_same | (with_reducible apply St.get_int; omega) | ((with_reducible (repeat (first | (apply St.get_ne; decide) | apply St.get_push | apply St.get_upd))); (first | with_reducible assumption | with_reducible exact St.get_same | (with_reducible apply St.get_int; omega))))) | with_reducible apply EVal.bin | with_reducible exact bop_addi | with_reducible exact bop_subi | with_reducible exact iop_addi | (with_reducible apply bop_mod; decide) | (with_reducible apply bop_add; omega) | (with_reducible apply iop_add; omega) | with_reducible apply BVal.cmp | ((with_reducible show cop _ _ _ = some _); rfl) | with_reducible apply BVal.not | with_reducible apply BVal.ne | with_reducible apply BVal.notIn | with_reducible apply BVal.inTwo | with_reducible apply BVal.val | ((with_reducible show tru _ (V.bool _) = some _); rfl) | (with_reducible apply tru_str; omega) | with_reducible exact PVal.no | with_reducible apply PVal.so | with_reducible apply EVal.item | with_reducible exact LVal.nil | with_reducible apply LVal.cons | with_reducible apply EVal.call) | with_reducible apply go_cons | with_reducible apply go_nil | with_reducible apply go_next | with_reducible apply go_kret | with_reducible apply go_kbrk | with_reducible apply go_kcont | with_reducible apply go_t | with_reducible apply go_f | with_reducible apply go_fl | with_reducible apply go_ret | with_reducible apply go_expr | with_reducible apply go_assert | with_reducible apply go_assign | with_reducible apply go_assign2 | with_reducible apply go_pair | (with_reducible apply go_aug; (first | with_reducible assumption | with_reducible exact St.get_same | (with_reducible apply St.get_int; omega) | ((with_reducible (repeat (first | (apply St.get_ne; decide) | apply St.get_push | apply St.get_upd))); (first | with_reducible assumption | with_reducible exact St.get_same | (with_reducible apply St.get_int; omega))))))) (by simp [hp]) (go_nil (go_next ?_))
      refine fin s1 P.res inb ipre ires iobj (by omega) (fun t ht => by have := hp2 t ht; omega) ?_
      rw [hpl, if_neg (by simpa using hp)]
    · refine go_ift (by repeat (first | (first | with_reducible exact EVal.const | (with_reducible apply EVal.name; (first | with_reducible assumption | with_reducible exact St.get_same | (with_reducible apply St.get_int; omega) | ((with_reducible (repeat (first | (apply St.get_ne; decide) | apply St.get_push | apply St.get_upd))); (first | with_reducible assumption | with_reducible exact St.get_same | (with_reducible apply St.get_int; omega))))) | with_reducible apply EVal.bin | with_reducible exact bop_addi | with_reducible exact bop_subi | with_reducible exact iop_addi | (with_reducible apply bop_mod; decide) | (with_reducible apply bop_add; omega) | (with_reducible apply iop_add; omega) | with_reducible apply BVal.cmp | ((with_reducible show cop _ _ _ = some _); rfl) | with_reducible apply BVal.not | with_reducible apply BVal.ne | with_reducible apply BVal.notIn | with_reducible apply BVal.inTwo | with_reducible apply BVal.val | ((with_reducible show tru _ (V.bool _) = some _); rfl) | (with_reducible apply tru_str; omega) | with_reducible exact PVal.no | with_reducible apply PVal.so | with_reducible apply EVal.item | with_reducible exact LVal.nil | with_reducible apply LVal.cons | with_reducible apply EVal.call) | with_reducible apply go_cons | with_reducible apply go_nil | with_reducible apply go_next | with_reducible apply go_kret | with_reducible apply go_kbrk | with_reducible apply go_kcont | with_reducible apply go_t | with_reducible apply go_f | with_reducible apply go_fl | with_reducible apply go_ret | with_reducible apply go_expr | with_reducible apply go_assert | with_reducible apply go_assign | with_reducible apply go_assign2 | with_reducible apply go_pair | (with_reducible apply go_aug; (first | with_reducible assumption | with_reducible exact St.get_same | (with_reducible apply St.get_int; omega) | ((with_reducible (repeat (first | (apply St.get_ne; decide) | apply St.get_push | apply St.get_upd))); (first | with_reducible assumption | with_reducible exact St.get_same | (with_reducible apply St.get_int; omega))))))) (by simp [hp]) ?_
      refine go_cons (go_append (by (first | with_reducible assumption | with_reducible exact St.get_same | (with_reducible apply St.get_int; omega) | ((with_reducible (repeat (first | (apply St.get_ne; decide) | apply St.get_push | apply St.get_upd))); (first | with_reducible assumption | with_reducible exact St.get_same | (with_reducible apply St.get_int; omega))))) (by repeat (first | (first | with_reducible exact EVal.const | (with_reducible apply EVal.name; (first | with_reducible assumption | with_reducible exact St.get_same | (with_reducible apply St.get_int; omega) | ((with_reducible (repeat (first | (apply St.get_ne; decide) | apply St.get_push | apply St.get_upd))); (first | with_reducible assumption | with_reducible exact St.get_same | (with_reducible apply St.get_int; omega))))) | with_reducible apply EVal.bin | with_reducible exact bop_addi | with_reducible exact bop_subi | with_reducible exact iop_addi | (with_reducible apply bop_mod; decide) | (with_reducible apply bop_add; omega) | (with_reducible apply iop_add; omega) | with_reducible apply BVal.cmp | ((with_reducible show cop _ _ _ = some _); rfl) | with_reducible apply BVal.not | with_reducible apply BVal.ne | with_reducible apply BVal.notIn | with_reducible apply BVal.inTwo | with_reducible apply BVal.val | ((with_reducible show tru _ (V.bool _) = some _); rfl) | (with_reducible apply tru_str; omega) | with_reducible exact PVal.no | with_reducible apply PVal.so | with_reducible apply EVal.item | with_reducible exact LVal.nil | with_reducible apply LVal.cons | with_reducible apply EVal.call) | with_reducible apply go_cons | with_reducible apply go_nil | with_reducible apply go_next | with_reducible apply go_kret | with_reducible apply go_kbrk | with_reducible apply go_kcont | with_reducible apply go_t | with_reducible apply go_f | with_reducible apply go_fl | with_reducible apply go_ret | with_reducible apply go_expr | with_reducible apply go_assert | with_reducible apply go_assign | with_reducible apply go_assign2 | with_reducible apply go_pair | (with_reducible apply go_aug; (first | with_reducible assumption | with_reducible exact St.get_same | (with_reducible apply St.get_int; omega) | ((with_reducible (repeat (first | (apply St.get_ne; decide) | apply St.get_push | apply St.get_upd))); (first | with_reducible assumption | with_reducible exact St.get_same | (with_reducible apply St.get_int; omega))))))) iobj (by omega) (by simp; omega) ?_)
      refine go_next (go_nil (go_next ?_))
      refine fin _ (P.res ++ [P.part]) inb (ipre.set _ ihk) (by (first | with_reducible assumption | with_reducible exact St.get_same | (with_reducible apply St.get_int; omega) | ((with_reducible (repeat (first | (apply St.get_ne; decide) | apply St.get_push | apply St.get_upd))); (first | with_reducible assumption | with_reducible exact St.get_same | (with_reducible apply St.get_int; omega))))) ((set_get iobj).trans (by simp)) (by simp; omega) (fun t ht => ?_) ?_
      · rcases List.mem_append.mp ht with q | q
        · have := hp2 t q; omega
        · have : t = P.part := by simpa using q
          rw [this]; omega
      · rw [hpl, if_pos hp]
theorem spec_escape {c : Nat} {st : St} {Q : V → St → Prop} (h : Q (.str (esc1 specials c)) st) : wescape [.str [c]] st Q := by
  refine go_def rfl fun s hs hnb hloc => ?_
  unfold bescape
  have hl : s.loc "pattern" = some (.str [c]) := by rw [hloc]; rfl
  refine go_cons (go_ift (BVal.val (EVal.isStr hl) rfl) rfl ?_)
  refine go_cons (go_ret (EVal.trans hl) (go_kret (go_kret (go_fnret ?_))))
  rw [hs]; exact h

theorem psl_nn {α : Type} (x : List α) (a b : Nat) : psl (some (a : Int)) (some (b : Int)) x = (x.drop a).take (b - a) := by
  unfold psl
  have e1 : clipLo (some (a : Int)) x.length = min a x.length := by
    unfold clipLo; simp only; rw [if_neg (by omega)]; omega
  have e2 : clipHi (some (b : Int)) x.length = min b x.length := by
    unfold clipHi; simp only; rw [if_neg (by omega)]; omega
  rw [e1, e2]
  by_cases h : a ≤ x.length
  · rw [Nat.min_eq_left h]
    by_cases h2 : b ≤ x.length
    · rw [Nat.min_eq_left h2]
    · rw [Nat.min_eq_right (by omega)]
      rw [List.take_of_length_le (i := b - a) (by simp; omega), List.take_of_length_le (by simp)]
  · rw [Nat.min_eq_right (a := a) (b := x.length) (by omega), List.drop_eq_nil_of_le (Nat.le_refl _), List.drop_eq_nil_of_le (by omega : x.length ≤ a)]; simp
theorem psl_ns {α : Type} (x : List α) (a : Nat) : psl (some (a : Int)) none x = x.drop a := by
  unfold psl
  have e1 : clipLo (some (a : Int)) x.length = min a x.length := by
    unfold clipLo; simp only; rw [if_neg (by omega)]; omega
  rw [e1]
  show (x.drop (min a x.length)).take (x.length - min a x.length) = _
  by_cases h : a ≤ x.length
  · rw [Nat.min_eq_left h, List.take_of_length_le (by simp)]
  · rw [Nat.min_eq_right (by omega), List.drop_of_length_le (by omega), List.drop_of_length_le (by omega)]; simp
theorem psl_sn {α : Type} (x : List α) (b : Nat) : psl none (some (b : Int)) x = x.take b := by
  unfold psl
  have e2 : clipHi (some (b : Int)) x.length = min b x.length := by
    unfold clipHi; simp only; rw [if_neg (by omega)]; omega
  rw [e2]
  show (x.drop 0).take (min b x.length - 0) = _
  by_cases h : b ≤ x.length
  · rw [Nat.min_eq_left h]; simp
  · rw [Nat.min_eq_right (by omega), List.take_of_length_le (i := b) (by omega)]; simp
theorem str_le1 (a b : Nat) : cop .LtE (.str [a]) (.str [b]) = some (decide (a ≤ b)) := by
  show some (!decide (([b] : T) < [a])) = _
  have : (([b] : T) < [a]) ↔ b < a := by simp [List.cons_lt_cons_iff]
  by_cases h : b < a
  · rw [decide_eq_true (this.mpr h), decide_eq_false (by omega)]; rfl
  · rw [decide_eq_false (fun q => h (this.mp q)), decide_eq_true (by omega)]; rfl
theorem str_gt1 (a b : Nat) : cop .Gt (.str [a]) (.str [b]) = some (decide (b < a)) := by
  show some (decide (([b] : T) < [a])) = _
  have : (([b] : T) < [a]) ↔ b < a := by simp [List.cons_lt_cons_iff]
  by_cases h : b < a
  · rw [decide_eq_true (this.mpr h), decide_eq_true h]
  · rw [decide_eq_false (fun q => h (this.mp q)), decide_eq_false h]
theorem BVal.and' {t u : BW} {st : St} {r r' : Bool} (h : BVal t st r st) (h1 : r = true → BVal u st r' st) : BVal (bAnd t u) st (r && r') st := by
  refine BVal.and h (fun e => ?_) fun e => ?_
  · subst e; exact ⟨rfl, rfl⟩
  · subst e; exact h1 rfl

theorem spec_bracket {kept signs : T} {st : St} {Q : V → St → Prop} (hl : kept.length + signs.length ≤ 100000) (h : Q (.str (brItem (kept ++ br signs))) st) : w_law_bracket [.str kept, .str signs] st Q := by
  refine go_def rfl fun s hs hnb hloc => ?_
  unfold b_law_bracket
  have hl1 : s.loc "kept" = some (.str kept) := by rw [hloc]; rfl
  have hl2 : s.loc "signs" = some (.str signs) := by rw [hloc]; rfl
  have hbl := br_len signs.length signs (Nat.le_refl _)
  generalize hK : kept ++ br signs = K at h
  have hKl : K.length ≤ 100000 := by rw [← hK, List.length_append]; omega
  have eD : sl "-" = [45] := by decide +kernel
  refine go_cons (go_assign EVal.const (go_next (go_cons ?_)))
  refine go_while (fun n s' => ∃ (at_ : Nat) (k : T), s'.sto = st.sto ∧ s'.loc "signs" = some (.str signs) ∧ s'.loc "at" = some (.int at_) ∧ s'.loc "kept" = some (.str k) ∧ at_ ≤ signs.length ∧ k ++ br (signs.drop at_) = K ∧ n = signs.length - at_) signs.length
    ⟨0, kept, hs, by (first | with_reducible assumption | with_reducible exact St.get_same | (with_reducible apply St.get_int; omega) | ((with_reducible (repeat (first | (apply St.get_ne; decide) | apply St.get_push | apply St.get_upd))); (first | with_reducible assumption | with_reducible exact St.get_same | (with_reducible apply St.get_int; omega)))), by exact St.get_same, by (first | with_reducible assumption | with_reducible exact St.get_same | (with_reducible apply St.get_int; omega) | ((with_reducible (repeat (first | (apply St.get_ne; decide) | apply St.get_push | apply St.get_upd))); (first | with_reducible assumption | with_reducible exact St.get_same | (with_reducible apply St.get_int; omega)))), Nat.zero_le _, by simpa using hK, by simp⟩ ?_
  rintro n s' ⟨at_, k, g1, g2, g3, g4, g5, g6, g7⟩
  have hkl : k.length + (br (signs.drop at_)).length = K.length := by rw [← g6, List.length_append]
  refine go_b (BVal.cmp (EVal.name g3) (EVal.call (LVal.cons (EVal.name g2) LVal.nil) (CVal.len_str (by omega))) rfl) ?_
  by_cases hlt : at_ < signs.length
  · rw [decide_eq_true (by omega)]
    refine go_tt ?_
    unfold w_law_bracket_while1
    obtain ⟨a, ha⟩ : ∃ a, signs[at_]? = some a := ⟨_, List.getElem?_eq_getElem hlt⟩
    have hd : signs.drop at_ = a :: signs.drop (at_ + 1) := by
      obtain ⟨q, e⟩ := getx ha
      rw [List.drop_eq_getElem_cons q, e]
    have hsl : EVal (wSlice (wName "signs") (pSome (wBin .Add (wName "at") (wC (.int 1)))) (pSome (wBin .Add (wName "at") (wC (.int 2))))) s' (.str ((signs.drop (at_ + 1)).take 1)) s' := by
      have := EVal.slice_str (x := signs) (EVal.name g2) (PVal.so (EVal.bin (EVal.name g3) (EVal.const (X := .int 1)) bop_addi)) (PVal.so (EVal.bin (EVal.name g3) (EVal.const (X := .int 2)) bop_addi)) (by omega)
      have e := psl_nn signs (at_ + 1) (at_ + 2)
      rw [show at_ + 2 - (at_ + 1) = 1 by omega] at e
      rw [← e]; exact this
    have htest := BVal.and' (BVal.cmp (op := .Eq) hsl (EVal.const (X := .str (sl "-"))) rfl) (fun _ => BVal.cmp (op := .Lt) (EVal.bin (EVal.name g3) (EVal.const (X := .int 2)) bop_addi) (EVal.call (LVal.cons (EVal.name g2) LVal.nil) (CVal.len_str (x := signs) (by omega))) rfl)
    refine go_cons ?_
    by_cases q : ∃ b r', signs.drop (at_ + 1) = 45 :: b :: r'
    · obtain ⟨b, r', hq⟩ := q
      have hlen : at_ + 3 ≤ signs.length := by
        have := congrArg List.length hq
        simp at this; omega
      have hb : signs[at_ + 2]? = some b := by
        have : (signs.drop (at_ + 1))[1]? = some b := by rw [hq]; rfl
        rw [List.getElem?_drop] at this; exact this
      have hr : signs.drop (at_ + 3) = r' := by
        have : (signs.drop (at_ + 1)).drop 2 = r' := by rw [hq]; rfl
        rw [List.drop_drop] at this; exact this
      refine go_ift htest (by rw [hq, eD]; simp; omega) (go_cons ?_)
      rw [hd, hq, br_range, ← hr] at g6 hkl
      have hit : BVal (bCmp .LtE (wItem (wName "signs") (wName "at")) (wItem (wName "signs") (wBin .Add (wName "at") (wC (.int 2))))) s' (decide (a ≤ b)) s' :=
        BVal.cmp (EVal.item (EVal.name g2) (EVal.name g3) (itm_str rfl ha (by omega))) (EVal.item (EVal.name g2) (EVal.bin (EVal.name g3) EVal.const bop_addi) (itm_str (k := at_ + 2) (by omega) hb (by omega))) (str_le1 a b)
      by_cases hab : a ≤ b
      · rw [if_pos hab] at g6 hkl
        refine go_ift hit (by simpa using hab) ?_
        have hs3 : EVal (wSlice (wName "signs") (pSome (wName "at")) (pSome (wBin .Add (wName "at") (wC (.int 3))))) s' (.str [a, 45, b]) s' := by
          have := EVal.slice_str (x := signs) (EVal.name g2) (PVal.so (EVal.name g3)) (PVal.so (EVal.bin (EVal.name g3) (EVal.const (X := .int 3)) bop_addi)) (by omega)
          have e := psl_nn signs at_ (at_ + 3)
          rw [show at_ + 3 - at_ = 3 by omega, hd, hq] at e
          rw [show [a, 45, b] = List.take 3 (a :: 45 :: b :: r') from rfl, ← e]; exact this
        have l3 : [a, 45, b].length = 3 := rfl
        refine go_cons (go_assign (EVal.bin (EVal.name g4) hs3 (bop_add (by simp at hkl ⊢; omega))) ?_)
        repeat (first | (first | with_reducible exact EVal.const | (with_reducible apply EVal.name; (first | with_reducible assumption | with_reducible exact St.get_same | (with_reducible apply St.get_int; omega) | ((with_reducible (repeat (first | (apply St.get_ne; decide) | apply St.get_push | apply St.get_upd))); (first | with_reducible assumption | with_reducible exact St.get_same | (with_reducible apply St.get_int; omega))))) | with_reducible apply EVal.bin | with_reducible exact bop_addi | with_reducible exact bop_subi | with_reducible exact iop_addi | (with_reducible apply bop_mod; decide) | (with_reducible apply bop_add; omega) | (with_reducible apply iop_add; omega) | with_reducible apply BVal.cmp | ((with_reducible show cop _ _ _ = some _); rfl) | with_reducible apply BVal.not | with_reducible apply BVal.ne | with_reducible apply BVal.notIn | with_reducible apply BVal.inTwo | with_reducible apply BVal.val | ((with_reducible show tru _ (V.bool _) = some _); rfl) | (with_reducible apply tru_str; omega) | with_reducible exact PVal.no | with_reducible apply PVal.so | with_reducible apply EVal.item | with_reducible exact LVal.nil | with_reducible apply LVal.cons | with_reducible apply EVal.call) | with_reducible apply go_cons | with_reducible apply go_nil | with_reducible apply go_next | with_reducible apply go_kret | with_reducible apply go_kbrk | with_reducible apply go_kcont | with_reducible apply go_t | with_reducible apply go_f | with_reducible apply go_fl | with_reducible apply go_ret | with_reducible apply go_expr | with_reducible apply go_assert | with_reducible apply go_assign | with_reducible apply go_assign2 | with_reducible apply go_pair | (with_reducible apply go_aug; (first | with_reducible assumption | with_reducible exact St.get_same | (with_reducible apply St.get_int; omega) | ((with_reducible (repeat (first | (apply St.get_ne; decide) | apply St.get_push | apply St.get_upd))); (first | with_reducible assumption | with_reducible exact St.get_same | (with_reducible apply St.get_int; omega))))))
        refine go_lnext (m := signs.length - (at_ + 3)) (by omega) ⟨at_ + 3, k ++ [a, 45, b], g1, by (first | with_reducible assumption | with_reducible exact St.get_same | (with_reducible apply St.get_int; omega) | ((with_reducible (repeat (first | (apply St.get_ne; decide) | apply St.get_push | apply St.get_upd))); (first | with_reducible assumption | with_reducible exact St.get_same | (with_reducible apply St.get_int; omega)))), by (first | with_reducible assumption | with_reducible exact St.get_same | (with_reducible apply St.get_int; omega) | ((with_reducible (repeat (first | (apply St.get_ne; decide) | apply St.get_push | apply St.get_upd))); (first | with_reducible assumption | with_reducible exact St.get_same | (with_reducible apply St.get_int; omega)))), by (first | with_reducible assumption | with_reducible exact St.get_same | (with_reducible apply St.get_int; omega) | ((with_reducible (repeat (first | (apply St.get_ne; decide) | apply St.get_push | apply St.get_upd))); (first | with_reducible assumption | with_reducible exact St.get_same | (with_reducible apply St.get_int; omega)))), by omega, by rw [← g6]; simp, rfl⟩
      · rw [if_neg hab] at g6 hkl
        refine go_iff hit (by simpa using hab) ?_
        repeat (first | (first | with_reducible exact EVal.const | (with_reducible apply EVal.name; (first | with_reducible assumption | with_reducible exact St.get_same | (with_reducible apply St.get_int; omega) | ((with_reducible (repeat (first | (apply St.get_ne; decide) | apply St.get_push | apply St.get_upd))); (first | with_reducible assumption | with_reducible exact St.get_same | (with_reducible apply St.get_int; omega))))) | with_reducible apply EVal.bin | with_reducible exact bop_addi | with_reducible exact bop_subi | with_reducible exact iop_addi | (with_reducible apply bop_mod; decide) | (with_reducible apply bop_add; omega) | (with_reducible apply iop_add; omega) | with_reducible apply BVal.cmp | ((with_reducible show cop _ _ _ = some _); rfl) | with_reducible apply BVal.not | with_reducible apply BVal.ne | with_reducible apply BVal.notIn | with_reducible apply BVal.inTwo | with_reducible apply BVal.val | ((with_reducible show tru _ (V.bool _) = some _); rfl) | (with_reducible apply tru_str; omega) | with_reducible exact PVal.no | with_reducible apply PVal.so | with_reducible apply EVal.item | with_reducible exact LVal.nil | with_reducible apply LVal.cons | with_reducible apply EVal.call) | with_reducible apply go_cons | with_reducible apply go_nil | with_reducible apply go_next | with_reducible apply go_kret | with_reducible apply go_kbrk | with_reducible apply go_kcont | with_reducible apply go_t | with_reducible apply go_f | with_reducible apply go_fl | with_reducible apply go_ret | with_reducible apply go_expr | with_reducible apply go_assert | with_reducible apply go_assign | with_reducible apply go_assign2 | with_reducible apply go_pair | (with_reducible apply go_aug; (first | with_reducible assumption | with_reducible exact St.get_same | (with_reducible apply St.get_int; omega) | ((with_reducible (repeat (first | (apply St.get_ne; decide) | apply St.get_push | apply St.get_upd))); (first | with_reducible assumption | with_reducible exact St.get_same | (with_reducible apply St.get_int; omega))))))
        refine go_lnext (m := signs.length - (at_ + 3)) (by omega) ⟨at_ + 3, k, g1, by (first | with_reducible assumption | with_reducible exact St.get_same | (with_reducible apply St.get_int; omega) | ((with_reducible (repeat (first | (apply St.get_ne; decide) | apply St.get_push | apply St.get_upd))); (first | with_reducible assumption | with_reducible exact St.get_same | (with_reducible apply St.get_int; omega)))), by (first | with_reducible assumption | with_reducible exact St.get_same | (with_reducible apply St.get_int; omega) | ((with_reducible (repeat (first | (apply St.get_ne; decide) | apply St.get_push | apply St.get_upd))); (first | with_reducible assumption | with_reducible exact St.get_same | (with_reducible apply St.get_int; omega)))), by (first | with_reducible assumption | with_reducible exact St.get_same | (with_reducible apply St.get_int; omega) | ((with_reducible (repeat (first | (apply St.get_ne; decide) | apply St.get_push | apply St.get_upd))); (first | with_reducible assumption | with_reducible exact St.get_same | (with_reducible apply St.get_int; omega)))), by omega, by rw [← g6]; simp, rfl⟩
    · have hbr := br_plain a (signs.drop (at_ + 1)) (fun b r' e => q ⟨b, r', e⟩)
      rw [hd, hbr] at g6 hkl
      refine go_iff htest ?_ (go_cons ?_)
      · rw [eD]
        cases hr : signs.drop (at_ + 1) with
        | nil => simp
        | cons c r =>
          by_cases hc : c = 45
          · subst hc
            cases r with
            | nil =>
              have := congrArg List.length hr
              simp at this
              simp; omega
            | cons b r => exact absurd ⟨b, r, hr⟩ q
          · simp [hc]
      · have l1 : [a].length = 1 := rfl
        refine go_assign (EVal.bin (EVal.name g4) (EVal.item (EVal.name g2) (EVal.name g3) (itm_str rfl ha (by omega))) (bop_add (by simp at hkl ⊢; omega))) ?_
        repeat (first | (first | with_reducible exact EVal.const | (with_reducible apply EVal.name; (first | with_reducible assumption | with_reducible exact St.get_same | (with_reducible apply St.get_int; omega) | ((with_reducible (repeat (first | (apply St.get_ne; decide) | apply St.get_push | apply St.get_upd))); (first | with_reducible assumption | with_reducible exact St.get_same | (with_reducible apply St.get_int; omega))))) | with_reducible apply EVal.bin | with_reducible exact bop_addi | with_reducible exact bop_subi | with_reducible exact iop_addi | (with_reducible apply bop_mod; decide) | (with_reducible apply bop_add; omega) | (with_reducible apply iop_add; omega) | with_reducible apply BVal.cmp | ((with_reducible show cop _ _ _ = some _); rfl) | with_reducible apply BVal.not | with_reducible apply BVal.ne | with_reducible apply BVal.notIn | with_reducible apply BVal.inTwo | with_reducible apply BVal.val | ((with_reducible show tru _ (V.bool _) = some _); rfl) | (with_reducible apply tru_str; omega) | with_reducible exact PVal.no | with_reducible apply PVal.so | with_reducible apply EVal.item | with_reducible exact LVal.nil | with_reducible apply LVal.cons | with_reducible apply EVal.call) | with_reducible apply go_cons | with_reducible apply go_nil | with_reducible apply go_next | with_reducible apply go_kret | with_reducible apply go_kbrk | with_reducible apply go_kcont | with_reducible apply go_t | with_reducible apply go_f | with_reducible apply go_fl | with_reducible apply go_ret | with_reducible apply go_expr | with_reducible apply go_assert | with_reducible apply go_assign | with_reducible apply go_assign2 | with_reducible apply go_pair | (with_reducible apply go_aug; (first | with_reducible assumption | with_reducible exact St.get_same | (with_reducible apply St.get_int; omega) | ((with_reducible (repeat (first | (apply St.get_ne; decide) | apply St.get_push | apply St.get_upd))); (first | with_reducible assumption | with_reducible exact St.get_same | (with_reducible apply St.get_int; omega))))))
        refine go_lnext (m := signs.length - (at_ + 1)) (by omega) ⟨at_ + 1, k ++ [a], g1, by (first | with_reducible assumption | with_reducible exact St.get_same | (with_reducible apply St.get_int; omega) | ((with_reducible (repeat (first | (apply St.get_ne; decide) | apply St.get_push | apply St.get_upd))); (first | with_reducible assumption | with_reducible exact St.get_same | (with_reducible apply St.get_int; omega)))), by (first | with_reducible assumption | with_reducible exact St.get_same | (with_reducible apply St.get_int; omega) | ((with_reducible (repeat (first | (apply St.get_ne; decide) | apply St.get_push | apply St.get_upd))); (first | with_reducible assumption | with_reducible exact St.get_same | (with_reducible apply St.get_int; omega)))), by (first | with_reducible assumption | with_reducible exact St.get_same | (with_reducible apply St.get_int; omega) | ((with_reducible (repeat (first | (apply St.get_ne; decide) | apply St.get_push | apply St.get_upd))); (first | with_reducible assumption | with_reducible exact St.get_same | (with_reducible apply St.get_int; omega)))), by omega, by rw [← g6]; simp, rfl⟩
  · rw [decide_eq_false (by omega)]
    have hk : k = K := by rw [← g6, List.drop_of_length_le (by omega)]; simp [br]
    subst hk
    refine go_tf (go_next (go_cons ?_))
    have e0 : sl "" = [] := by decide +kernel
    have e1 : sl "!" = [33] := by decide +kernel
    by_cases c0 : k = []
    · refine go_ift (by repeat (first | (first | with_reducible exact EVal.const | (with_reducible apply EVal.name; (first | with_reducible assumption | with_reducible exact St.get_same | (with_reducible apply St.get_int; omega) | ((with_reducible (repeat (first | (apply St.get_ne; decide) | apply St.get_push | apply St.get_upd))); (first | with_reducible assumption | with_reducible exact St.get_same | (with_reducible apply St.get_int; omega))))) | with_reducible apply EVal.bin | with_reducible exact bop_addi | with_reducible exact bop_subi | with_reducible exact iop_addi | (with_reducible apply bop_mod; decide) | (with_reducible apply bop_add; omega) | (with_reducible apply iop_add; omega) | with_reducible apply BVal.cmp | ((with_reducible show cop _ _ _ = some _); rfl) | with_reducible apply BVal.not | with_reducible apply BVal.ne | with_reducible apply BVal.notIn | with_reducible apply BVal.inTwo | with_reducible apply BVal.val | ((with_reducible show tru _ (V.bool _) = some _); rfl) | (with_reducible apply tru_str; omega) | with_reducible exact PVal.no | with_reducible apply PVal.so | with_reducible apply EVal.item | with_reducible exact LVal.nil | with_reducible apply LVal.cons | with_reducible apply EVal.call) | with_reducible apply go_cons | with_reducible apply go_nil | with_reducible apply go_next | with_reducible apply go_kret | with_reducible apply go_kbrk | with_reducible apply go_kcont | with_reducible apply go_t | with_reducible apply go_f | with_reducible apply go_fl | with_reducible apply go_ret | with_reducible apply go_expr | with_reducible apply go_assert | with_reducible apply go_assign | with_reducible apply go_assign2 | with_reducible apply go_pair | (with_reducible apply go_aug; (first | with_reducible assumption | with_reducible exact St.get_same | (with_reducible apply St.get_int; omega) | ((with_reducible (repeat (first | (apply St.get_ne; decide) | apply St.get_push | apply St.get_upd))); (first | with_reducible assumption | with_reducible exact St.get_same | (with_reducible apply St.get_int; omega))))))) (by rw [e0, c0]; rfl) ?_
      refine go_cons (go_ret EVal.const (go_kret (go_kret (go_fnret ?_))))
      rw [g1]
      unfold brItem at h
      rw [if_pos c0] at h; exact h
    · refine go_iff (by repeat (first | (first | with_reducible exact EVal.const | (with_reducible apply EVal.name; (first | with_reducible assumption | with_reducible exact St.get_same | (with_reducible apply St.get_int; omega) | ((with_reducible (repeat (first | (apply St.get_ne; decide) | apply St.get_push | apply St.get_upd))); (first | with_reducible assumption | with_reducible exact St.get_same | (with_reducible apply St.get_int; omega))))) | with_reducible apply EVal.bin | with_reducible exact bop_addi | with_reducible exact bop_subi | with_reducible exact iop_addi | (with_reducible apply bop_mod; decide) | (with_reducible apply bop_add; omega) | (with_reducible apply iop_add; omega) | with_reducible apply BVal.cmp | ((with_reducible show cop _ _ _ = some _); rfl) | with_reducible apply BVal.not | with_reducible apply BVal.ne | with_reducible apply BVal.notIn | with_reducible apply BVal.inTwo | with_reducible apply BVal.val | ((with_reducible show tru _ (V.bool _) = some _); rfl) | (with_reducible apply tru_str; omega) | with_reducible exact PVal.no | with_reducible apply PVal.so | with_reducible apply EVal.item | with_reducible exact LVal.nil | with_reducible apply LVal.cons | with_reducible apply EVal.call) | with_reducible apply go_cons | with_reducible apply go_nil | with_reducible apply go_next | with_reducible apply go_kret | with_reducible apply go_kbrk | with_reducible apply go_kcont | with_reducible apply go_t | with_reducible apply go_f | with_reducible apply go_fl | with_reducible apply go_ret | with_reducible apply go_expr | with_reducible apply go_assert | with_reducible apply go_assign | with_reducible apply go_assign2 | with_reducible apply go_pair | (with_reducible apply go_aug; (first | with_reducible assumption | with_reducible exact St.get_same | (with_reducible apply St.get_int; omega) | ((with_reducible (repeat (first | (apply St.get_ne; decide) | apply St.get_push | apply St.get_upd))); (first | with_reducible assumption | with_reducible exact St.get_same | (with_reducible apply St.get_int; omega))))))) (by rw [e0]; simpa using c0) (go_nil (go_next (go_cons ?_)))
      by_cases c1 : k = [33]
      · refine go_ift (by repeat (first | (first | with_reducible exact EVal.const | (with_reducible apply EVal.name; (first | with_reducible assumption | with_reducible exact St.get_same | (with_reducible apply St.get_int; omega) | ((with_reducible (repeat (first | (apply St.get_ne; decide) | apply St.get_push | apply St.get_upd))); (first | with_reducible assumption | with_reducible exact St.get_same | (with_reducible apply St.get_int; omega))))) | with_reducible apply EVal.bin | with_reducible exact bop_addi | with_reducible exact bop_subi | with_reducible exact iop_addi | (with_reducible apply bop_mod; decide) | (with_reducible apply bop_add; omega) | (with_reducible apply iop_add; omega) | with_reducible apply BVal.cmp | ((with_reducible show cop _ _ _ = some _); rfl) | with_reducible apply BVal.not | with_reducible apply BVal.ne | with_reducible apply BVal.notIn | with_reducible apply BVal.inTwo | with_reducible apply BVal.val | ((with_reducible show tru _ (V.bool _) = some _); rfl) | (with_reducible apply tru_str; omega) | with_reducible exact PVal.no | with_reducible apply PVal.so | with_reducible apply EVal.item | with_reducible exact LVal.nil | with_reducible apply LVal.cons | with_reducible apply EVal.call) | with_reducible apply go_cons | with_reducible apply go_nil | with_reducible apply go_next | with_reducible apply go_kret | with_reducible apply go_kbrk | with_reducible apply go_kcont | with_reducible apply go_t | with_reducible apply go_f | with_reducible apply go_fl | with_reducible apply go_ret | with_reducible apply go_expr | with_reducible apply go_assert | with_reducible apply go_assign | with_reducible apply go_assign2 | with_reducible apply go_pair | (with_reducible apply go_aug; (first | with_reducible assumption | with_reducible exact St.get_same | (with_reducible apply St.get_int; omega) | ((with_reducible (repeat (first | (apply St.get_ne; decide) | apply St.get_push | apply St.get_upd))); (first | with_reducible assumption | with_reducible exact St.get_same | (with_reducible apply St.get_int; omega))))))) (by rw [e1, c1]; rfl) ?_
        refine go_cons (go_ret EVal.const (go_kret (go_kret (go_fnret ?_))))
        rw [g1]
        unfold brItem at h
        rw [if_neg c0, if_pos c1] at h; exact h
      · refine go_iff (by repeat (first | (first | with_reducible exact EVal.const | (with_reducible apply EVal.name; (first | with_reducible assumption | with_reducible exact St.get_same | (with_reducible apply St.get_int; omega) | ((with_reducible (repeat (first | (apply St.get_ne; decide) | apply St.get_push | apply St.get_upd))); (first | with_reducible assumption | with_reducible exact St.get_same | (with_reducible apply St.get_int; omega))))) | with_reducible apply EVal.bin | with_reducible exact bop_addi | with_reducible exact bop_subi | with_reducible exact iop_addi | (with_reducible apply bop_mod; decide) | (with_reducible apply bop_add; omega) | (with_reducible apply iop_add; omega) | with_reducible apply BVal.cmp | ((with_reducible show cop _ _ _ = some _); rfl) | with_reducible apply BVal.not | with_reducible apply BVal.ne | with_reducible apply BVal.notIn | with_reducible apply BVal.inTwo | with_reducible apply BVal.val | ((with_reducible show tru _ (V.bool _) = some _); rfl) | (with_reducible apply tru_str; omega) | with_reducible exact PVal.no | with_reducible apply PVal.so | with_reducible apply EVal.item | with_reducible exact LVal.nil | with_reducible apply LVal.cons | with_reducible apply EVal.call) | with_reducible apply go_cons | with_reducible apply go_nil | with_reducible apply go_next | with_reducible apply go_kret | with_reducible apply go_kbrk | with_reducible apply go_kcont | with_reducible apply go_t | with_reducible apply go_f | with_reducible apply go_fl | with_reducible apply go_ret | with_reducible apply go_expr | with_reducible apply go_assert | with_reducible apply go_assign | with_reducible apply go_assign2 | with_reducible apply go_pair | (with_reducible apply go_aug; (first | with_reducible assumption | with_reducible exact St.get_same | (with_reducible apply St.get_int; omega) | ((with_reducible (repeat (first | (apply St.get_ne; decide) | apply St.get_push | apply St.get_upd))); (first | with_reducible assumption | with_reducible exact St.get_same | (with_reducible apply St.get_int; omega))))))) (by rw [e1]; simpa using c1) (go_nil (go_next (go_cons ?_)))
        unfold brItem at h
        rw [if_neg c0, if_neg c1] at h
        obtain ⟨c, r, hkc⟩ : ∃ c r, k = c :: r := by
          cases k with
          | nil => exact absurd rfl c0
          | cons c r => exact ⟨c, r, rfl⟩
        have hit : BVal (bCmp .Eq (wItem (wName "kept") (wC (.int 0))) (wC (.str (sl "!")))) s' (([c] : T) == sl "!") s' :=
          BVal.cmp (EVal.item (EVal.name g4) EVal.const (itm_str (k := 0) rfl (by rw [hkc]; rfl) (by omega))) EVal.const rfl
        have fin : ∀ (s2 : St) (z : T), s2.sto = st.sto → s2.loc "kept" = some (.str z) → z.length ≤ 100001 → sl "[" ++ (lawHead k ++ sl "]") = sl "[" ++ (z ++ sl "]") → 
            (sCons (sRet (wBin .Add (wBin .Add (wC (.str (sl "["))) (wName "kept")) (wC (.str (sl "]"))))) sNil) s2 (kFn st Q) := by
          intro s2 z q1 q2 q3 q4
          have l1 : (sl "[").length = 1 := by decide +kernel
          have l2 : (sl "]").length = 1 := by decide +kernel
          refine go_cons (go_ret (EVal.bin (EVal.bin EVal.const (EVal.name q2) (bop_add (by omega))) EVal.const (bop_add (by rw [List.length_append]; omega))) (go_kret (go_fnret ?_)))
          rw [q1, List.append_assoc, ← q4]; exact h
        by_cases c2 : c = 33
        · refine go_ift hit (by rw [e1, c2]; rfl) ?_
          have e3 : sl "^" = [94] := by decide +kernel
          have hsl : EVal (wSlice (wName "kept") (pSome (wC (.int 1))) pNone) s' (.str r) s' := by
            have := EVal.slice_str (x := k) (EVal.name g4) (PVal.so (EVal.const (X := .int 1))) PVal.no (by omega)
            have e := psl_ns k 1
            rw [hkc] at e
            have e' : psl (some (1 : Int)) none (c :: r) = r := e
            rw [hkc, e'] at this; exact this
          have lr : r.length + 1 ≤ 100000 := by have := congrArg List.length hkc; simp at this; omega
          have l94 : (sl "^").length = 1 := by decide +kernel
          refine go_cons (go_assign (EVal.bin EVal.const hsl (bop_add (by omega))) (go_next (go_nil (go_next ?_))))
          refine fin _ (sl "^" ++ r) ?_ (by (first | with_reducible assumption | with_reducible exact St.get_same | (with_reducible apply St.get_int; omega) | ((with_reducible (repeat (first | (apply St.get_ne; decide) | apply St.get_push | apply St.get_upd))); (first | with_reducible assumption | with_reducible exact St.get_same | (with_reducible apply St.get_int; omega))))) (by rw [List.length_append]; omega) ?_
          · exact g1
          · rw [hkc, c2, e3]; rfl
        · refine go_iff hit (by rw [e1]; simpa using c2) (go_nil (go_next ?_))
          refine fin s' k g1 g4 (by omega) ?_
          have : lawHead k = k := by unfold lawHead; rw [hkc, List.head?_cons, if_neg (by simpa using c2)]
          rw [this]
/- data -/
def toN : Option T → V
  | none => .none
  | some t => .str t
def pyO : Option T → PyData
  | none => .none
  | some t => .str ⟨t.toArray⟩
def OkT (t : T) : Prop := ∀ c ∈ t, c < 1114112
def OkO (o : Option T) : Prop := ∀ t, o = some t → OkT t
theorem OkT.app {x y : T} (h : OkT x) (h' : OkT y) : OkT (x ++ y) := fun c hc => (List.mem_append.mp hc).elim (h c) (h' c)
theorem okT_sub {x y : T} (h : OkT x) (hs : ∀ c ∈ y, c ∈ x) : OkT y := fun c hc => h c (hs c hc)
theorem mem_br : ∀ (n : Nat) (x : T), x.length ≤ n → ∀ c ∈ br x, c ∈ x
  | 0, [], _ => by simp [br]
  | n + 1, [], _ => by simp [br]
  | n + 1, a :: r, h => by
    intro c hc
    by_cases q : ∃ b r', r = 45 :: b :: r'
    · obtain ⟨b, r', rfl⟩ := q
      rw [br_range] at hc
      rcases List.mem_append.mp hc with hc | hc
      · split at hc
        · simp at hc; rcases hc with rfl | rfl | rfl <;> simp
        · simp at hc
      · have := mem_br n r' (by simp at h; omega) c hc
        simp [this]
    · rw [br_plain a r (fun b r' e => q ⟨b, r', e⟩)] at hc
      rcases List.mem_cons.mp hc with rfl | hc
      · simp
      · have := mem_br n r (by simp at h; omega) c hc
        simp [this]
theorem okT_lit : OkT (sl "(?!)") ∧ OkT (sl ".") ∧ OkT (sl "[") ∧ OkT (sl "]") := by unfold OkT; decide +kernel
theorem okT_brItem {k : T} (h : OkT k) : OkT (brItem k) := by
  have hh : OkT (lawHead k) := by
    unfold lawHead
    split
    · intro c hc
      rcases List.mem_cons.mp hc with rfl | hc
      · decide
      · exact h c (List.mem_of_mem_drop hc)
    · exact h
  unfold brItem
  split
  · exact okT_lit.1
  · split
    · exact okT_lit.2.1
    · exact okT_lit.2.2.1.app (hh.app okT_lit.2.2.2)
theorem okT_seg {x : T} (h : OkT x) (a b : Nat) : OkT (seg x a b) := okT_sub h fun _ hc => seg_sub hc
theorem okT_brk {x : T} (h : OkT x) (a b c : Nat) : OkT (brItem (seg x a b ++ br (seg x b c))) :=
  okT_brItem ((okT_seg h a b).app (okT_sub (okT_seg h b c) (mem_br _ _ (Nat.le_refl _))))
theorem okO_step {xs : List (Option T)} {o : Option T} (h : ∀ p ∈ xs, OkO p) (ho : OkO o) : ∀ p ∈ stepO xs o, OkO p := by
  cases o with
  | none =>
    show ∀ p ∈ (if xs.getLast? = some none then xs else xs ++ [none]), OkO p
    split
    · exact h
    · intro p hp
      rcases List.mem_append.mp hp with hp | hp
      · exact h p hp
      · have : p = none := by simpa using hp
        rw [this]; exact ho
  | some t =>
    intro p hp
    rcases List.mem_append.mp hp with hp | hp
    · exact h p hp
    · have : p = some t := by simpa using hp
      rw [this]; exact ho
theorem toks_okO {x : T} (h : OkT x) : ∀ (n i : Nat), x.length - i ≤ n → ∀ tk ∈ toks x i, OkO (lawO tk) := by
  refine toks_all (fun t e => by cases e) (fun t e => by cases e; unfold OkT; decide) (fun c hm t e => ?_) fun i j _ _ t e => ?_
  · cases e
    intro d hd
    have : d = c := by simpa using hd
    rw [this]; exact h c hm
  · cases e; exact okT_brk h _ _ _
theorem okO_fold : ∀ (os xs : List (Option T)), (∀ o ∈ os, OkO o) → (∀ p ∈ xs, OkO p) → ∀ p ∈ os.foldl stepO xs, OkO p
  | [], _, _, h => h
  | o :: os, _, ho, h => okO_fold os _ (fun p hp => ho p (List.mem_cons_of_mem _ hp)) (okO_step h (ho o (by simp)))
theorem okO_law {x : T} (h : OkT x) : ∀ o ∈ lawItems x, OkO o := okO_fold _ _ (fun o ho => by
  obtain ⟨tk, ht, rfl⟩ := List.mem_map.mp ho
  exact toks_okO h x.length 0 (by omega) tk ht) (fun p hp => by simp at hp)

theorem dat_toN (sto : List O) (n : Nat) (o : Option T) : dat sto n (toN o) = some (pyO o) := by
  cases o <;> cases n <;> simp [toN, pyO, dat]
theorem dats_toN (sto : List O) (n : Nat) : ∀ os : List (Option T), dats sto n (os.map toN) = some (os.map pyO)
  | [] => by simp [dats]
  | o :: os => by rw [List.map_cons, dats, dat_toN, dats_toN sto n os]; rfl
theorem dat_list {sto : List O} {n k : Nat} {os : List (Option T)} (h : sto[k]? = some (.list (os.map toN))) : dat sto (n + 1) (.ref k) = some (.list (os.map pyO)) := by
  rw [dat, h]; simp only [dats_toN]; rfl
theorem lay_pyO : ∀ {o : Option T}, OkO o → (pyO o).canLay0 = true
  | none, _ => by simp [pyO, PyData.canLay0]
  | some t, h => by
    have := h t rfl
    unfold OkT at this
    simp [pyO, PyData.canLay0, PyData.strOk]
    exact this
theorem lay_pyOs : ∀ {os : List (Option T)}, (∀ o ∈ os, OkO o) → PyData.canLayAll0 (os.map pyO) = true
  | [], _ => by simp [PyData.canLayAll0]
  | o :: os, h => by
    rw [List.map_cons, PyData.canLayAll0, lay_pyO (h o (by simp)), lay_pyOs fun p hp => h p (List.mem_cons_of_mem _ hp)]; rfl
theorem psl_last {α : Type} (x : List α) : psl (some (-1)) none x = x.drop (x.length - 1) := by
  unfold psl
  have e1 : clipLo (some (-1)) x.length = x.length - 1 := by
    unfold clipLo; simp only; rw [if_pos (by omega)]; omega
  rw [e1]
  show (x.drop (x.length - 1)).take (x.length - (x.length - 1)) = _
  rw [List.take_of_length_le (by simp)]
theorem eqv_last (os : List (Option T)) : PyData.eqv (.list ((os.drop (os.length - 1)).map pyO)) (.list [.none]) = decide (os.getLast? = some none) := by
  rcases List.eq_nil_or_concat os with rfl | ⟨l, o, rfl⟩
  · simp [PyData.eqv, PyData.eqvAll]
  · rw [List.concat_eq_append]
    have : (l ++ [o]).drop ((l ++ [o]).length - 1) = [o] := by simp
    rw [this]
    cases o <;> simp [PyData.eqv, PyData.eqvAll, pyO]
theorem BVal.neD {a b : EW} {st st1 st2 : St} {X Y : V} {n : Nat} {da db : PyData} (ha : EVal a st X st1) (hb : EVal b st1 Y st2) (hn : n ≤ 100) (h1 : dat st2.sto n X = some da) (h2 : dat st2.sto n Y = some db) (h3 : da.canLay0 = true) (h4 : db.canLay0 = true) :
    BVal (bNeD a b) st (!PyData.eqv da db) st2 := fun _ q => ha _ (hb _ ⟨n, da, db, hn, h1, h2, h3, h4, q⟩)

theorem fst33_slice (x : T) (i : Nat) : ((x.drop i).take 1 == sl "!") = decide (x[i]? = some 33) := by
  have e1 : sl "!" = [33] := by decide +kernel
  rw [e1]
  cases h : x[i]? with
  | none =>
    rw [List.drop_eq_nil_of_le (List.getElem?_eq_none_iff.mp h)]; rfl
  | some c =>
    obtain ⟨q, e⟩ := getx h
    rw [List.drop_eq_getElem_cons q, e]
    by_cases hc : c = 33 <;> simp [hc]
structure LI (base : List O) (x : T) (k : Nat) (n : Nat) (s : St) (i : Nat) (its : List (Option T)) : Prop where
  nb : s.nb = base.length
  pre : Pre base s.sto
  hk : base.length ≤ k
  pat : s.loc "pattern" = some (.str x)
  at_ : s.loc "at" = some (.int i)
  items : s.loc "items" = some (.ref k)
  obj : s.sto[k]? = some (.list (its.map toN))
  ile : i ≤ x.length
  fold : ((toks x i).map lawO).foldl stepO its = lawItems x
  len : its.length ≤ i
  ok : ∀ o ∈ its, OkO o
  meas : n = x.length - i
theorem spec_items {x : T} {st : St} {Q : V → St → Prop} (hx : x.length ≤ 1000) (hok : OkT x) (h : ∀ s' r, Pre st.sto s' → s'[r]? = some (.list ((lawItems x).map toN)) → Q (.ref r) ⟨st.loc, s', st.nb⟩) : w_law_items [.str x] st Q := by
  refine go_def rfl fun s hs hnb hloc => ?_
  unfold b_law_items
  have hl : s.loc "pattern" = some (.str x) := by rw [hloc]; rfl
  refine go_cons (go_assign (EVal.list LVal.nil (by simp)) (go_next (go_cons (go_assign EVal.const (go_next (go_cons ?_))))))
  refine go_while (fun n s' => ∃ i its, LI st.sto x s.sto.length n s' i its) x.length ⟨0, [], ⟨hnb, by show Pre st.sto (s.sto ++ _); rw [← hs]; exact Pre.rfl'.push _, by rw [hs]; exact Nat.le_refl _, by (first | with_reducible assumption | with_reducible exact St.get_same | (with_reducible apply St.get_int; omega) | ((with_reducible (repeat (first | (apply St.get_ne; decide) | apply St.get_push | apply St.get_upd))); (first | with_reducible assumption | with_reducible exact St.get_same | (with_reducible apply St.get_int; omega)))), by exact St.get_same, by (first | with_reducible assumption | with_reducible exact St.get_same | (with_reducible apply St.get_int; omega) | ((with_reducible (repeat (first | (apply St.get_ne; decide) | apply St.get_push | apply St.get_upd))); (first | with_reducible assumption | with_reducible exact St.get_same | (with_reducible apply St.get_int; omega)))), push_new, Nat.zero_le _, rfl, by simp, by simp, by simp⟩⟩ ?_
  rintro n s' ⟨i, its, I⟩
  obtain ⟨inb, ipre, ihk, ipat, iat, iit, iobj, iile, ifold, ilen, iok, imeas⟩ := I
  refine go_b (BVal.cmp (EVal.name iat) (EVal.call (LVal.cons (EVal.name ipat) LVal.nil) (CVal.len_str (by omega))) rfl) ?_
  by_cases hlt : i < x.length
  · rw [decide_eq_true (by omega)]
    refine go_tt ?_
    unfold w_law_items_while1
    obtain ⟨c, hc⟩ : ∃ c, x[i]? = some c := ⟨_, List.getElem?_eq_getElem hlt⟩
    have hcm : c ∈ x := by obtain ⟨q, e⟩ := getx hc; rw [← e]; exact List.getElem_mem q
    refine go_cons (go_assign (EVal.item (EVal.name ipat) (EVal.name iat) (itm_str rfl hc (by omega))) (go_next (go_cons (go_assign (by repeat (first | (first | with_reducible exact EVal.const | (with_reducible apply EVal.name; (first | with_reducible assumption | with_reducible exact St.get_same | (with_reducible apply St.get_int; omega) | ((with_reducible (repeat (first | (apply St.get_ne; decide) | apply St.get_push | apply St.get_upd))); (first | with_reducible assumption | with_reducible exact St.get_same | (with_reducible apply St.get_int; omega))))) | with_reducible apply EVal.bin | with_reducible exact bop_addi | with_reducible exact bop_subi | with_reducible exact iop_addi | (with_reducible apply bop_mod; decide) | (with_reducible apply bop_add; omega) | (with_reducible apply iop_add; omega) | with_reducible apply BVal.cmp | ((with_reducible show cop _ _ _ = some _); rfl) | with_reducible apply BVal.not | with_reducible apply BVal.ne | with_reducible apply BVal.notIn | with_reducible apply BVal.inTwo | with_reducible apply BVal.val | ((with_reducible show tru _ (V.bool _) = some _); rfl) | (with_reducible apply tru_str; omega) | with_reducible exact PVal.no | with_reducible apply PVal.so | with_reducible apply EVal.item | with_reducible exact LVal.nil | with_reducible apply LVal.cons | with_reducible apply EVal.call) | with_reducible apply go_cons | with_reducible apply go_nil | with_reducible apply go_next | with_reducible apply go_kret | with_reducible apply go_kbrk | with_reducible apply go_kcont | with_reducible apply go_t | with_reducible apply go_f | with_reducible apply go_fl | with_reducible apply go_ret | with_reducible apply go_expr | with_reducible apply go_assert | with_reducible apply go_assign | with_reducible apply go_assign2 | with_reducible apply go_pair | (with_reducible apply go_aug; (first | with_reducible assumption | with_reducible exact St.get_same | (with_reducible apply St.get_int; omega) | ((with_reducible (repeat (first | (apply St.get_ne; decide) | apply St.get_push | apply St.get_upd))); (first | with_reducible assumption | with_reducible exact St.get_same | (with_reducible apply St.get_int; omega))))))) (go_next (go_cons ?_))))))
    have e42 : ([c] == sl "*") = decide (c = 42) := by
      have : sl "*" = [42] := by decide +kernel
      rw [this]; by_cases h : c = 42 <;> simp [h]
    have e91 : ([c] == sl "[") = decide (c = 91) := by
      have : sl "[" = [91] := by decide +kernel
      rw [this]; by_cases h : c = 91 <;> simp [h]
    by_cases c1 : c = 42
    · subst c1
      rw [toks_star hc] at ifold
      refine go_ift (by repeat (first | (first | with_reducible exact EVal.const | (with_reducible apply EVal.name; (first | with_reducible assumption | with_reducible exact St.get_same | (with_reducible apply St.get_int; omega) | ((with_reducible (repeat (first | (apply St.get_ne; decide) | apply St.get_push | apply St.get_upd))); (first | with_reducible assumption | with_reducible exact St.get_same | (with_reducible apply St.get_int; omega))))) | with_reducible apply EVal.bin | with_reducible exact bop_addi | with_reducible exact bop_subi | with_reducible exact iop_addi | (with_reducible apply bop_mod; decide) | (with_reducible apply bop_add; omega) | (with_reducible apply iop_add; omega) | with_reducible apply BVal.cmp | ((with_reducible show cop _ _ _ = some _); rfl) | with_reducible apply BVal.not | with_reducible apply BVal.ne | with_reducible apply BVal.notIn | with_reducible apply BVal.inTwo | with_reducible apply BVal.val | ((with_reducible show tru _ (V.bool _) = some _); rfl) | (with_reducible apply tru_str; omega) | with_reducible exact PVal.no | with_reducible apply PVal.so | with_reducible apply EVal.item | with_reducible exact LVal.nil | with_reducible apply LVal.cons | with_reducible apply EVal.call) | with_reducible apply go_cons | with_reducible apply go_nil | with_reducible apply go_next | with_reducible apply go_kret | with_reducible apply go_kbrk | with_reducible apply go_kcont | with_reducible apply go_t | with_reducible apply go_f | with_reducible apply go_fl | with_reducible apply go_ret | with_reducible apply go_expr | with_reducible apply go_assert | with_reducible apply go_assign | with_reducible apply go_assign2 | with_reducible apply go_pair | (with_reducible apply go_aug; (first | with_reducible assumption | with_reducible exact St.get_same | (with_reducible apply St.get_int; omega) | ((with_reducible (repeat (first | (apply St.get_ne; decide) | apply St.get_push | apply St.get_upd))); (first | with_reducible assumption | with_reducible exact St.get_same | (with_reducible apply St.get_int; omega))))))) (by rw [e42]; rfl) (go_cons ?_)
      have hps := psl_last (its.map toN)
      rw [List.length_map, ← List.map_drop] at hps
      have hsl := EVal.slice_list (a := wName "items") (st := (s'.set "sign" (.str [42])).set "at" (.int ((i : Int) + 1))) (EVal.name (by (first | with_reducible assumption | with_reducible exact St.get_same | (with_reducible apply St.get_int; omega) | ((with_reducible (repeat (first | (apply St.get_ne; decide) | apply St.get_push | apply St.get_upd))); (first | with_reducible assumption | with_reducible exact St.get_same | (with_reducible apply St.get_int; omega)))))) (PVal.so (EVal.const (X := .int (-1)))) PVal.no iobj (by simp; omega)
      rw [hps] at hsl
      have hls := EVal.list (st := ((s'.set "sign" (.str [42])).set "at" (.int ((i : Int) + 1))).push (.list ((its.drop (its.length - 1)).map toN))) (LVal.cons (EVal.const (X := .none)) LVal.nil) (by simp)
      have hne := BVal.neD (n := 1) hsl hls (by decide) (dat_list (push_get push_new)) (dat_list (os := [none]) push_new)
        (by rw [PyData.canLay0]; exact lay_pyOs fun o ho => iok o (List.mem_of_mem_drop ho)) (by simp [PyData.canLay0, PyData.canLayAll0, pyO])
      have hev : PyData.eqv (.list ((its.drop (its.length - 1)).map pyO)) (.list ([none].map pyO)) = decide (its.getLast? = some none) := eqv_last its
      rw [hev] at hne
      by_cases hlast : its.getLast? = some none
      · refine go_iff hne (by simp [hlast]) ?_
        repeat (first | with_reducible apply go_nil | with_reducible apply go_next)
        refine go_lnext (m := x.length - (i + 1)) (by omega) ⟨i + 1, its, ⟨inb, (ipre.push _).push _, ihk, by (first | with_reducible assumption | with_reducible exact St.get_same | (with_reducible apply St.get_int; omega) | ((with_reducible (repeat (first | (apply St.get_ne; decide) | apply St.get_push | apply St.get_upd))); (first | with_reducible assumption | with_reducible exact St.get_same | (with_reducible apply St.get_int; omega)))), by (first | with_reducible assumption | with_reducible exact St.get_same | (with_reducible apply St.get_int; omega) | ((with_reducible (repeat (first | (apply St.get_ne; decide) | apply St.get_push | apply St.get_upd))); (first | with_reducible assumption | with_reducible exact St.get_same | (with_reducible apply St.get_int; omega)))), by (first | with_reducible assumption | with_reducible exact St.get_same | (with_reducible apply St.get_int; omega) | ((with_reducible (repeat (first | (apply St.get_ne; decide) | apply St.get_push | apply St.get_upd))); (first | with_reducible assumption | with_reducible exact St.get_same | (with_reducible apply St.get_int; omega)))), push_get (push_get iobj), by omega, ?_, by omega, iok, rfl⟩⟩
        rw [← ifold]
        show _ = List.foldl stepO (stepO its none) _
        have : stepO its none = its := if_pos hlast
        rw [this]
      · refine go_ift hne (by simp [hlast]) (go_cons ?_)
        have hob : (((s'.set "sign" (.str [42])).set "at" (.int ((i : Int) + 1))).push (.list ((its.drop (its.length - 1)).map toN))).sto[s.sto.length]? = some (.list (its.map toN)) := push_get iobj
        refine go_append (by (first | with_reducible assumption | with_reducible exact St.get_same | (with_reducible apply St.get_int; omega) | ((with_reducible (repeat (first | (apply St.get_ne; decide) | apply St.get_push | apply St.get_upd))); (first | with_reducible assumption | with_reducible exact St.get_same | (with_reducible apply St.get_int; omega))))) EVal.const (push_get hob) (by show s'.nb ≤ _; omega) (by simp; omega) ?_
        repeat (first | with_reducible apply go_nil | with_reducible apply go_next)
        have hst : stepO its none = its ++ [none] := if_neg hlast
        refine go_lnext (m := x.length - (i + 1)) (by omega) ⟨i + 1, its ++ [none], ⟨inb, ((ipre.push _).push _).set _ ihk, ihk, by (first | with_reducible assumption | with_reducible exact St.get_same | (with_reducible apply St.get_int; omega) | ((with_reducible (repeat (first | (apply St.get_ne; decide) | apply St.get_push | apply St.get_upd))); (first | with_reducible assumption | with_reducible exact St.get_same | (with_reducible apply St.get_int; omega)))), by (first | with_reducible assumption | with_reducible exact St.get_same | (with_reducible apply St.get_int; omega) | ((with_reducible (repeat (first | (apply St.get_ne; decide) | apply St.get_push | apply St.get_upd))); (first | with_reducible assumption | with_reducible exact St.get_same | (with_reducible apply St.get_int; omega)))), by (first | with_reducible assumption | with_reducible exact St.get_same | (with_reducible apply St.get_int; omega) | ((with_reducible (repeat (first | (apply St.get_ne; decide) | apply St.get_push | apply St.get_upd))); (first | with_reducible assumption | with_reducible exact St.get_same | (with_reducible apply St.get_int; omega)))), (set_get (push_get hob)).trans (by simp [toN]), by omega, ?_, by simp; omega, ?_, rfl⟩⟩
        · rw [← ifold, List.map_cons, List.foldl_cons]
          show _ = List.foldl stepO (stepO its none) _
          rw [hst]
        · rw [← hst]; exact okO_step iok (by intro t e; cases e)
    · refine go_iff (by repeat (first | (first | with_reducible exact EVal.const | (with_reducible apply EVal.name; (first | with_reducible assumption | with_reducible exact St.get_same | (with_reducible apply St.get_int; omega) | ((with_reducible (repeat (first | (apply St.get_ne; decide) | apply St.get_push | apply St.get_upd))); (first | with_reducible assumption | with_reducible exact St.get_same | (with_reducible apply St.get_int; omega))))) | with_reducible apply EVal.bin | with_reducible exact bop_addi | with_reducible exact bop_subi | with_reducible exact iop_addi | (with_reducible apply bop_mod; decide) | (with_reducible apply bop_add; omega) | (with_reducible apply iop_add; omega) | with_reducible apply BVal.cmp | ((with_reducible show cop _ _ _ = some _); rfl) | with_reducible apply BVal.not | with_reducible apply BVal.ne | with_reducible apply BVal.notIn | with_reducible apply BVal.inTwo | with_reducible apply BVal.val | ((with_reducible show tru _ (V.bool _) = some _); rfl) | (with_reducible apply tru_str; omega) | with_reducible exact PVal.no | with_reducible apply PVal.so | with_reducible apply EVal.item | with_reducible exact LVal.nil | with_reducible apply LVal.cons | with_reducible apply EVal.call) | with_reducible apply go_cons | with_reducible apply go_nil | with_reducible apply go_next | with_reducible apply go_kret | with_reducible apply go_kbrk | with_reducible apply go_kcont | with_reducible apply go_t | with_reducible apply go_f | with_reducible apply go_fl | with_reducible apply go_ret | with_reducible apply go_expr | with_reducible apply go_assert | with_reducible apply go_assign | with_reducible apply go_assign2 | with_reducible apply go_pair | (with_reducible apply go_aug; (first | with_reducible assumption | with_reducible exact St.get_same | (with_reducible apply St.get_int; omega) | ((with_reducible (repeat (first | (apply St.get_ne; decide) | apply St.get_push | apply St.get_upd))); (first | with_reducible assumption | with_reducible exact St.get_same | (with_reducible apply St.get_int; omega))))))) (by rw [e42]; simpa using c1) (go_cons ?_)
      by_cases c2 : c = 91
      · subst c2
        refine go_ift (by repeat (first | (first | with_reducible exact EVal.const | (with_reducible apply EVal.name; (first | with_reducible assumption | with_reducible exact St.get_same | (with_reducible apply St.get_int; omega) | ((with_reducible (repeat (first | (apply St.get_ne; decide) | apply St.get_push | apply St.get_upd))); (first | with_reducible assumption | with_reducible exact St.get_same | (with_reducible apply St.get_int; omega))))) | with_reducible apply EVal.bin | with_reducible exact bop_addi | with_reducible exact bop_subi | with_reducible exact iop_addi | (with_reducible apply bop_mod; decide) | (with_reducible apply bop_add; omega) | (with_reducible apply iop_add; omega) | with_reducible apply BVal.cmp | ((with_reducible show cop _ _ _ = some _); rfl) | with_reducible apply BVal.not | with_reducible apply BVal.ne | with_reducible apply BVal.notIn | with_reducible apply BVal.inTwo | with_reducible apply BVal.val | ((with_reducible show tru _ (V.bool _) = some _); rfl) | (with_reducible apply tru_str; omega) | with_reducible exact PVal.no | with_reducible apply PVal.so | with_reducible apply EVal.item | with_reducible exact LVal.nil | with_reducible apply LVal.cons | with_reducible apply EVal.call) | with_reducible apply go_cons | with_reducible apply go_nil | with_reducible apply go_next | with_reducible apply go_kret | with_reducible apply go_kbrk | with_reducible apply go_kcont | with_reducible apply go_t | with_reducible apply go_f | with_reducible apply go_fl | with_reducible apply go_ret | with_reducible apply go_expr | with_reducible apply go_assert | with_reducible apply go_assign | with_reducible apply go_assign2 | with_reducible apply go_pair | (with_reducible apply go_aug; (first | with_reducible assumption | with_reducible exact St.get_same | (with_reducible apply St.get_int; omega) | ((with_reducible (repeat (first | (apply St.get_ne; decide) | apply St.get_push | apply St.get_upd))); (first | with_reducible assumption | with_reducible exact St.get_same | (with_reducible apply St.get_int; omega))))))) (by rw [e91]; rfl) (go_cons ?_)
        generalize hs2 : (s'.set "sign" (.str [91])).set "at" (.int ((i : Int) + 1)) = s2
        have p1 : s2.loc "pattern" = some (.str x) := by rw [← hs2]; (first | with_reducible assumption | with_reducible exact St.get_same | (with_reducible apply St.get_int; omega) | ((with_reducible (repeat (first | (apply St.get_ne; decide) | apply St.get_push | apply St.get_upd))); (first | with_reducible assumption | with_reducible exact St.get_same | (with_reducible apply St.get_int; omega))))
        have p2 : s2.loc "at" = some (.int ((i + 1 : Nat) : Int)) := by rw [← hs2]; (first | with_reducible assumption | with_reducible exact St.get_same | (with_reducible apply St.get_int; omega) | ((with_reducible (repeat (first | (apply St.get_ne; decide) | apply St.get_push | apply St.get_upd))); (first | with_reducible assumption | with_reducible exact St.get_same | (with_reducible apply St.get_int; omega))))
        have p3 : s2.loc "items" = some (.ref s.sto.length) := by rw [← hs2]; (first | with_reducible assumption | with_reducible exact St.get_same | (with_reducible apply St.get_int; omega) | ((with_reducible (repeat (first | (apply St.get_ne; decide) | apply St.get_push | apply St.get_upd))); (first | with_reducible assumption | with_reducible exact St.get_same | (with_reducible apply St.get_int; omega))))
        have p4 : s2.sto = s'.sto := by rw [← hs2]; rfl
        have p5 : s2.nb = s'.nb := by rw [← hs2]; rfl
        have hsl : EVal (wSlice (wName "pattern") (pSome (wName "at")) (pSome (wBin .Add (wName "at") (wC (.int 1))))) s2 (.str ((x.drop (i + 1)).take 1)) s2 := by
          have := EVal.slice_str (x := x) (EVal.name p1) (PVal.so (EVal.name p2)) (PVal.so (EVal.bin (EVal.name p2) (EVal.const (X := .int 1)) bop_addi)) (by omega)
          have e := psl_nn x (i + 1) (i + 2)
          rw [show i + 2 - (i + 1) = 1 by omega] at e
          rw [← e]; exact this
        have htest : BVal (bCmp .Eq (wSlice (wName "pattern") (pSome (wName "at")) (pSome (wBin .Add (wName "at") (wC (.int 1))))) (wC (.str (sl "!")))) s2 (decide (x[i + 1]? = some 33)) s2 := by
          have := BVal.cmp (op := .Eq) hsl (EVal.const (X := .str (sl "!"))) rfl
          rw [fst33_slice] at this; exact this
        have hfirst : EVal (wIte (bCmp .Eq (wSlice (wName "pattern") (pSome (wName "at")) (pSome (wBin .Add (wName "at") (wC (.int 1))))) (wC (.str (sl "!")))) (wBin .Add (wName "at") (wC (.int 1))) (wName "at")) s2 (.int (fst33 x (i + 1) : Nat)) s2 := by
          unfold fst33
          by_cases q : x[i + 1]? = some 33
          · rw [decide_eq_true q] at htest
            rw [if_pos q]
            exact EVal.ite_t htest (EVal.bin (EVal.name p2) (EVal.const (X := .int 1)) bop_addi)
          · rw [decide_eq_false q] at htest
            rw [if_neg q]
            exact EVal.ite_f htest (EVal.name p2)
        refine go_assign hfirst (go_next (go_cons ?_))
        have hf33 := fst33_le x (i + 1)
        generalize hF : fst33 x (i + 1) = F at hf33
        refine go_assign (EVal.methS (EVal.name (by (first | with_reducible assumption | with_reducible exact St.get_same | (with_reducible apply St.get_int; omega) | ((with_reducible (repeat (first | (apply St.get_ne; decide) | apply St.get_push | apply St.get_upd))); (first | with_reducible assumption | with_reducible exact St.get_same | (with_reducible apply St.get_int; omega)))))) (LVal.cons EVal.const (LVal.cons (EVal.bin (EVal.name (by (first | with_reducible assumption | with_reducible exact St.get_same | (with_reducible apply St.get_int; omega) | ((with_reducible (repeat (first | (apply St.get_ne; decide) | apply St.get_push | apply St.get_upd))); (first | with_reducible assumption | with_reducible exact St.get_same | (with_reducible apply St.get_int; omega)))))) EVal.const bop_addi) LVal.nil)) (X := .int (fndI (fnd x 93 (F + 1) x.length)))
          (by
            have e93 : sl "]" = [93] := by decide +kernel
            rw [e93]
            exact CVal.find3 (by omega) fun r' hr => findAt_fnd hr)) (go_next (go_cons ?_))
        cases hf : fnd x 93 (F + 1) x.length with
        | none =>
          rw [toks_op hc (by rw [hF]; exact hf)] at ifold
          refine go_ift (by repeat (first | (first | with_reducible exact EVal.const | (with_reducible apply EVal.name; (first | with_reducible assumption | with_reducible exact St.get_same | (with_reducible apply St.get_int; omega) | ((with_reducible (repeat (first | (apply St.get_ne; decide) | apply St.get_push | apply St.get_upd))); (first | with_reducible assumption | with_reducible exact St.get_same | (with_reducible apply St.get_int; omega))))) | with_reducible apply EVal.bin | with_reducible exact bop_addi | with_reducible exact bop_subi | with_reducible exact iop_addi | (with_reducible apply bop_mod; decide) | (with_reducible apply bop_add; omega) | (with_reducible apply iop_add; omega) | with_reducible apply BVal.cmp | ((with_reducible show cop _ _ _ = some _); rfl) | with_reducible apply BVal.not | with_reducible apply BVal.ne | with_reducible apply BVal.notIn | with_reducible apply BVal.inTwo | with_reducible apply BVal.val | ((with_reducible show tru _ (V.bool _) = some _); rfl) | (with_reducible apply tru_str; omega) | with_reducible exact PVal.no | with_reducible apply PVal.so | with_reducible apply EVal.item | with_reducible exact LVal.nil | with_reducible apply LVal.cons | with_reducible apply EVal.call) | with_reducible apply go_cons | with_reducible apply go_nil | with_reducible apply go_next | with_reducible apply go_kret | with_reducible apply go_kbrk | with_reducible apply go_kcont | with_reducible apply go_t | with_reducible apply go_f | with_reducible apply go_fl | with_reducible apply go_ret | with_reducible apply go_expr | with_reducible apply go_assert | with_reducible apply go_assign | with_reducible apply go_assign2 | with_reducible apply go_pair | (with_reducible apply go_aug; (first | with_reducible assumption | with_reducible exact St.get_same | (with_reducible apply St.get_int; omega) | ((with_reducible (repeat (first | (apply St.get_ne; decide) | apply St.get_push | apply St.get_upd))); (first | with_reducible assumption | with_reducible exact St.get_same | (with_reducible apply St.get_int; omega))))))) rfl (go_cons ?_)
          refine go_append (by (first | with_reducible assumption | with_reducible exact St.get_same | (with_reducible apply St.get_int; omega) | ((with_reducible (repeat (first | (apply St.get_ne; decide) | apply St.get_push | apply St.get_upd))); (first | with_reducible assumption | with_reducible exact St.get_same | (with_reducible apply St.get_int; omega))))) EVal.const (by show s2.sto[_]? = _; rw [p4]; exact iobj) (by show s2.nb ≤ _; omega) (by simp; omega) ?_
          repeat (first | (first | with_reducible exact EVal.const | (with_reducible apply EVal.name; (first | with_reducible assumption | with_reducible exact St.get_same | (with_reducible apply St.get_int; omega) | ((with_reducible (repeat (first | (apply St.get_ne; decide) | apply St.get_push | apply St.get_upd))); (first | with_reducible assumption | with_reducible exact St.get_same | (with_reducible apply St.get_int; omega))))) | with_reducible apply EVal.bin | with_reducible exact bop_addi | with_reducible exact bop_subi | with_reducible exact iop_addi | (with_reducible apply bop_mod; decide) | (with_reducible apply bop_add; omega) | (with_reducible apply iop_add; omega) | with_reducible apply BVal.cmp | ((with_reducible show cop _ _ _ = some _); rfl) | with_reducible apply BVal.not | with_reducible apply BVal.ne | with_reducible apply BVal.notIn | with_reducible apply BVal.inTwo | with_reducible apply BVal.val | ((with_reducible show tru _ (V.bool _) = some _); rfl) | (with_reducible apply tru_str; omega) | with_reducible exact PVal.no | with_reducible apply PVal.so | with_reducible apply EVal.item | with_reducible exact LVal.nil | with_reducible apply LVal.cons | with_reducible apply EVal.call) | with_reducible apply go_cons | with_reducible apply go_nil | with_reducible apply go_next | with_reducible apply go_kret | with_reducible apply go_kbrk | with_reducible apply go_kcont | with_reducible apply go_t | with_reducible apply go_f | with_reducible apply go_fl | with_reducible apply go_ret | with_reducible apply go_expr | with_reducible apply go_assert | with_reducible apply go_assign | with_reducible apply go_assign2 | with_reducible apply go_pair | (with_reducible apply go_aug; (first | with_reducible assumption | with_reducible exact St.get_same | (with_reducible apply St.get_int; omega) | ((with_reducible (repeat (first | (apply St.get_ne; decide) | apply St.get_push | apply St.get_upd))); (first | with_reducible assumption | with_reducible exact St.get_same | (with_reducible apply St.get_int; omega))))))
          refine go_lnext (m := x.length - (i + 1)) (by omega) ⟨i + 1, its ++ [some [91]], ⟨by show s2.nb = _; omega, by show Pre _ (s2.sto.set _ _); rw [p4]; exact ipre.set _ ihk, ihk, by (first | with_reducible assumption | with_reducible exact St.get_same | (with_reducible apply St.get_int; omega) | ((with_reducible (repeat (first | (apply St.get_ne; decide) | apply St.get_push | apply St.get_upd))); (first | with_reducible assumption | with_reducible exact St.get_same | (with_reducible apply St.get_int; omega)))), by (first | with_reducible assumption | with_reducible exact St.get_same | (with_reducible apply St.get_int; omega) | ((with_reducible (repeat (first | (apply St.get_ne; decide) | apply St.get_push | apply St.get_upd))); (first | with_reducible assumption | with_reducible exact St.get_same | (with_reducible apply St.get_int; omega)))), by (first | with_reducible assumption | with_reducible exact St.get_same | (with_reducible apply St.get_int; omega) | ((with_reducible (repeat (first | (apply St.get_ne; decide) | apply St.get_push | apply St.get_upd))); (first | with_reducible assumption | with_reducible exact St.get_same | (with_reducible apply St.get_int; omega)))), ?_, by omega, ifold, by simp; omega, ?_, rfl⟩⟩
          · show (s2.sto.set _ _)[_]? = _
            rw [p4]
            have e91 : sl "[" = [91] := by decide +kernel
            rw [e91]
            exact (set_get iobj).trans (by simp [toN])
          · exact okO_step iok (o := some [91]) (by intro t e; cases e; unfold OkT; decide)
        | some j =>
          obtain ⟨g1, g2, g3, g4⟩ := fnd_some hf
          rw [toks_brk hc (by rw [hF]; exact hf), hF] at ifold
          rw [show fndI (some j) = (j : Int) from rfl]
          refine go_iff (by repeat (first | (first | with_reducible exact EVal.const | (with_reducible apply EVal.name; (first | with_reducible assumption | with_reducible exact St.get_same | (with_reducible apply St.get_int; omega) | ((with_reducible (repeat (first | (apply St.get_ne; decide) | apply St.get_push | apply St.get_upd))); (first | with_reducible assumption | with_reducible exact St.get_same | (with_reducible apply St.get_int; omega))))) | with_reducible apply EVal.bin | with_reducible exact bop_addi | with_reducible exact bop_subi | with_reducible exact iop_addi | (with_reducible apply bop_mod; decide) | (with_reducible apply bop_add; omega) | (with_reducible apply iop_add; omega) | with_reducible apply BVal.cmp | ((with_reducible show cop _ _ _ = some _); rfl) | with_reducible apply BVal.not | with_reducible apply BVal.ne | with_reducible apply BVal.notIn | with_reducible apply BVal.inTwo | with_reducible apply BVal.val | ((with_reducible show tru _ (V.bool _) = some _); rfl) | (with_reducible apply tru_str; omega) | with_reducible exact PVal.no | with_reducible apply PVal.so | with_reducible apply EVal.item | with_reducible exact LVal.nil | with_reducible apply LVal.cons | with_reducible apply EVal.call) | with_reducible apply go_cons | with_reducible apply go_nil | with_reducible apply go_next | with_reducible apply go_kret | with_reducible apply go_kbrk | with_reducible apply go_kcont | with_reducible apply go_t | with_reducible apply go_f | with_reducible apply go_fl | with_reducible apply go_ret | with_reducible apply go_expr | with_reducible apply go_assert | with_reducible apply go_assign | with_reducible apply go_assign2 | with_reducible apply go_pair | (with_reducible apply go_aug; (first | with_reducible assumption | with_reducible exact St.get_same | (with_reducible apply St.get_int; omega) | ((with_reducible (repeat (first | (apply St.get_ne; decide) | apply St.get_push | apply St.get_upd))); (first | with_reducible assumption | with_reducible exact St.get_same | (with_reducible apply St.get_int; omega))))))) (decide_eq_false (by omega)) (go_cons ?_)
          have hs3 : ∀ s3 : St, s3.loc "pattern" = some (.str x) → s3.loc "at" = some (.int ((i + 1 : Nat) : Int)) → s3.loc "first" = some (.int (F : Nat)) → s3.loc "shut" = some (.int (j : Nat)) →
              EVal (wCall (lCons (wSlice (wName "pattern") (pSome (wName "at")) (pSome (wName "first"))) (lCons (wSlice (wName "pattern") (pSome (wName "first")) (pSome (wName "shut"))) lNil)) w_law_bracket) s3 (.str (brItem (seg x (i + 1) F ++ br (seg x F j)))) s3 := by
            intro s3 q1 q2 q3 q4
            refine EVal.call (st1 := s3) (LVal.cons (st1 := s3) (X := .str (seg x (i + 1) F)) ?_ (LVal.cons (st1 := s3) (X := .str (seg x F j)) ?_ LVal.nil)) fun Q q => ?_
            · have := EVal.slice_str (x := x) (EVal.name q1) (PVal.so (EVal.name q2)) (PVal.so (EVal.name q3)) (by omega)
              rw [psl_nn] at this; exact this
            · have := EVal.slice_str (x := x) (EVal.name q1) (PVal.so (EVal.name q3)) (PVal.so (EVal.name q4)) (by omega)
              rw [psl_nn] at this; exact this
            · have l1 := seg_lens x (i + 1) F
              have l2 := seg_lens x F j
              exact spec_bracket (by omega) q
          refine go_append (by (first | with_reducible assumption | with_reducible exact St.get_same | (with_reducible apply St.get_int; omega) | ((with_reducible (repeat (first | (apply St.get_ne; decide) | apply St.get_push | apply St.get_upd))); (first | with_reducible assumption | with_reducible exact St.get_same | (with_reducible apply St.get_int; omega))))) (hs3 _ (by (first | with_reducible assumption | with_reducible exact St.get_same | (with_reducible apply St.get_int; omega) | ((with_reducible (repeat (first | (apply St.get_ne; decide) | apply St.get_push | apply St.get_upd))); (first | with_reducible assumption | with_reducible exact St.get_same | (with_reducible apply St.get_int; omega))))) (by (first | with_reducible assumption | with_reducible exact St.get_same | (with_reducible apply St.get_int; omega) | ((with_reducible (repeat (first | (apply St.get_ne; decide) | apply St.get_push | apply St.get_upd))); (first | with_reducible assumption | with_reducible exact St.get_same | (with_reducible apply St.get_int; omega))))) (by (first | with_reducible assumption | with_reducible exact St.get_same | (with_reducible apply St.get_int; omega) | ((with_reducible (repeat (first | (apply St.get_ne; decide) | apply St.get_push | apply St.get_upd))); (first | with_reducible assumption | with_reducible exact St.get_same | (with_reducible apply St.get_int; omega))))) (by (first | with_reducible assumption | with_reducible exact St.get_same | (with_reducible apply St.get_int; omega) | ((with_reducible (repeat (first | (apply St.get_ne; decide) | apply St.get_push | apply St.get_upd))); (first | with_reducible assumption | with_reducible exact St.get_same | (with_reducible apply St.get_int; omega)))))) (by show s2.sto[_]? = _; rw [p4]; exact iobj) (by show s2.nb ≤ _; omega) (by simp; omega) ?_
          repeat (first | (first | with_reducible exact EVal.const | (with_reducible apply EVal.name; (first | with_reducible assumption | with_reducible exact St.get_same | (with_reducible apply St.get_int; omega) | ((with_reducible (repeat (first | (apply St.get_ne; decide) | apply St.get_push | apply St.get_upd))); (first | with_reducible assumption | with_reducible exact St.get_same | (with_reducible apply St.get_int; omega))))) | with_reducible apply EVal.bin | with_reducible exact bop_addi | with_reducible exact bop_subi | with_reducible exact iop_addi | (with_reducible apply bop_mod; decide) | (with_reducible apply bop_add; omega) | (with_reducible apply iop_add; omega) | with_reducible apply BVal.cmp | ((with_reducible show cop _ _ _ = some _); rfl) | with_reducible apply BVal.not | with_reducible apply BVal.ne | with_reducible apply BVal.notIn | with_reducible apply BVal.inTwo | with_reducible apply BVal.val | ((with_reducible show tru _ (V.bool _) = some _); rfl) | (with_reducible apply tru_str; omega) | with_reducible exact PVal.no | with_reducible apply PVal.so | with_reducible apply EVal.item | with_reducible exact LVal.nil | with_reducible apply LVal.cons | with_reducible apply EVal.call) | with_reducible apply go_cons | with_reducible apply go_nil | with_reducible apply go_next | with_reducible apply go_kret | with_reducible apply go_kbrk | with_reducible apply go_kcont | with_reducible apply go_t | with_reducible apply go_f | with_reducible apply go_fl | with_reducible apply go_ret | with_reducible apply go_expr | with_reducible apply go_assert | with_reducible apply go_assign | with_reducible apply go_assign2 | with_reducible apply go_pair | (with_reducible apply go_aug; (first | with_reducible assumption | with_reducible exact St.get_same | (with_reducible apply St.get_int; omega) | ((with_reducible (repeat (first | (apply St.get_ne; decide) | apply St.get_push | apply St.get_upd))); (first | with_reducible assumption | with_reducible exact St.get_same | (with_reducible apply St.get_int; omega))))))
          refine go_lnext (m := x.length - (j + 1)) (by omega) ⟨j + 1, its ++ [some (brItem (seg x (i + 1) F ++ br (seg x F j)))], ⟨by show s2.nb = _; omega, by show Pre _ (s2.sto.set _ _); rw [p4]; exact ipre.set _ ihk, ihk, by (first | with_reducible assumption | with_reducible exact St.get_same | (with_reducible apply St.get_int; omega) | ((with_reducible (repeat (first | (apply St.get_ne; decide) | apply St.get_push | apply St.get_upd))); (first | with_reducible assumption | with_reducible exact St.get_same | (with_reducible apply St.get_int; omega)))), by (first | with_reducible assumption | with_reducible exact St.get_same | (with_reducible apply St.get_int; omega) | ((with_reducible (repeat (first | (apply St.get_ne; decide) | apply St.get_push | apply St.get_upd))); (first | with_reducible assumption | with_reducible exact St.get_same | (with_reducible apply St.get_int; omega)))), by (first | with_reducible assumption | with_reducible exact St.get_same | (with_reducible apply St.get_int; omega) | ((with_reducible (repeat (first | (apply St.get_ne; decide) | apply St.get_push | apply St.get_upd))); (first | with_reducible assumption | with_reducible exact St.get_same | (with_reducible apply St.get_int; omega)))), ?_, by omega, ifold, by simp; omega, ?_, rfl⟩⟩
          · show (s2.sto.set _ _)[_]? = _
            rw [p4]
            exact (set_get iobj).trans (by simp [toN])
          · exact okO_step iok (o := some _) (by intro t e; cases e; exact okT_brk hok _ _ _)
      · rw [toks_sign hc c1 c2] at ifold
        refine go_iff (by repeat (first | (first | with_reducible exact EVal.const | (with_reducible apply EVal.name; (first | with_reducible assumption | with_reducible exact St.get_same | (with_reducible apply St.get_int; omega) | ((with_reducible (repeat (first | (apply St.get_ne; decide) | apply St.get_push | apply St.get_upd))); (first | with_reducible assumption | with_reducible exact St.get_same | (with_reducible apply St.get_int; omega))))) | with_reducible apply EVal.bin | with_reducible exact bop_addi | with_reducible exact bop_subi | with_reducible exact iop_addi | (with_reducible apply bop_mod; decide) | (with_reducible apply bop_add; omega) | (with_reducible apply iop_add; omega) | with_reducible apply BVal.cmp | ((with_reducible show cop _ _ _ = some _); rfl) | with_reducible apply BVal.not | with_reducible apply BVal.ne | with_reducible apply BVal.notIn | with_reducible apply BVal.inTwo | with_reducible apply BVal.val | ((with_reducible show tru _ (V.bool _) = some _); rfl) | (with_reducible apply tru_str; omega) | with_reducible exact PVal.no | with_reducible apply PVal.so | with_reducible apply EVal.item | with_reducible exact LVal.nil | with_reducible apply LVal.cons | with_reducible apply EVal.call) | with_reducible apply go_cons | with_reducible apply go_nil | with_reducible apply go_next | with_reducible apply go_kret | with_reducible apply go_kbrk | with_reducible apply go_kcont | with_reducible apply go_t | with_reducible apply go_f | with_reducible apply go_fl | with_reducible apply go_ret | with_reducible apply go_expr | with_reducible apply go_assert | with_reducible apply go_assign | with_reducible apply go_assign2 | with_reducible apply go_pair | (with_reducible apply go_aug; (first | with_reducible assumption | with_reducible exact St.get_same | (with_reducible apply St.get_int; omega) | ((with_reducible (repeat (first | (apply St.get_ne; decide) | apply St.get_push | apply St.get_upd))); (first | with_reducible assumption | with_reducible exact St.get_same | (with_reducible apply St.get_int; omega))))))) (by rw [e91]; simpa using c2) (go_cons ?_)
        refine go_append (by (first | with_reducible assumption | with_reducible exact St.get_same | (with_reducible apply St.get_int; omega) | ((with_reducible (repeat (first | (apply St.get_ne; decide) | apply St.get_push | apply St.get_upd))); (first | with_reducible assumption | with_reducible exact St.get_same | (with_reducible apply St.get_int; omega))))) (EVal.name (by (first | with_reducible assumption | with_reducible exact St.get_same | (with_reducible apply St.get_int; omega) | ((with_reducible (repeat (first | (apply St.get_ne; decide) | apply St.get_push | apply St.get_upd))); (first | with_reducible assumption | with_reducible exact St.get_same | (with_reducible apply St.get_int; omega)))))) iobj (by show s'.nb ≤ _; omega) (by simp; omega) ?_
        repeat (first | with_reducible apply go_nil | with_reducible apply go_next)
        refine go_lnext (m := x.length - (i + 1)) (by omega) ⟨i + 1, its ++ [some [c]], ⟨inb, ipre.set _ ihk, ihk, by (first | with_reducible assumption | with_reducible exact St.get_same | (with_reducible apply St.get_int; omega) | ((with_reducible (repeat (first | (apply St.get_ne; decide) | apply St.get_push | apply St.get_upd))); (first | with_reducible assumption | with_reducible exact St.get_same | (with_reducible apply St.get_int; omega)))), by (first | with_reducible assumption | with_reducible exact St.get_same | (with_reducible apply St.get_int; omega) | ((with_reducible (repeat (first | (apply St.get_ne; decide) | apply St.get_push | apply St.get_upd))); (first | with_reducible assumption | with_reducible exact St.get_same | (with_reducible apply St.get_int; omega)))), by (first | with_reducible assumption | with_reducible exact St.get_same | (with_reducible apply St.get_int; omega) | ((with_reducible (repeat (first | (apply St.get_ne; decide) | apply St.get_push | apply St.get_upd))); (first | with_reducible assumption | with_reducible exact St.get_same | (with_reducible apply St.get_int; omega)))), (set_get iobj).trans (by simp [toN]), by omega, ifold, by simp; omega, ?_, rfl⟩⟩
        exact okO_step iok (o := some [c]) (by
          intro t e; cases e
          intro d hd
          have : d = c := by simpa using hd
          rw [this]; exact hok c hcm)
  · rw [decide_eq_false (by omega)]
    refine go_tf (go_next (go_cons (go_ret (EVal.name iit) (go_kret (go_fnret ?_)))))
    rw [toks_end (by omega)] at ifold
    have : its = lawItems x := ifold
    subst this
    exact h _ _ ipre iobj
def pyS (t : T) : PyData := .str ⟨t.toArray⟩
theorem dat_str (sto : List O) (n : Nat) (t : T) : dat sto n (.str t) = some (pyS t) := by cases n <;> simp [dat, pyS]
theorem dats_strs (sto : List O) (n : Nat) : ∀ ts : List T, dats sto n (ts.map .str) = some (ts.map pyS)
  | [] => by simp [dats]
  | t :: ts => by rw [List.map_cons, dats, dat_str, dats_strs sto n ts]; rfl
theorem dat_strs {sto : List O} {n k : Nat} {ts : List T} (h : sto[k]? = some (.list (ts.map .str))) : dat sto (n + 1) (.ref k) = some (.list (ts.map pyS)) := by
  rw [dat, h]; simp only [dats_strs]; rfl
theorem dats_grow {sto sto' : List O} {n : Nat} (h : ∀ (X : V) (d : PyData), dat sto n X = some d → dat sto' n X = some d) : ∀ (Xs : List V) (ds : List PyData), dats sto n Xs = some ds → dats sto' n Xs = some ds
  | [], ds, e => by simpa [dats] using e
  | X :: Xs, ds, e => by
    rw [dats] at e ⊢
    cases h1 : dat sto n X with
    | none => simp [h1] at e
    | some d =>
      cases h2 : dats sto n Xs with
      | none => simp [h1, h2] at e
      | some ds' =>
        simp only [h1, h2] at e
        rw [h X d h1, dats_grow h Xs ds' h2]; exact e
theorem dat_grow {sto sto' : List O} (hp : Pre sto sto') : ∀ (n : Nat) (X : V) (d : PyData), dat sto n X = some d → dat sto' n X = some d := by
  intro n
  induction n with
  | zero => intro X d e; cases X <;> simp [dat] at e ⊢ <;> exact e
  | succ n ih =>
    intro X d e
    cases X with
    | ref k =>
      rw [dat] at e ⊢
      cases h1 : sto[k]? with
      | none => simp [h1] at e
      | some o =>
        rw [hp.get h1]
        rw [h1] at e
        cases o with
        | list xs =>
          simp only at e ⊢
          cases h2 : dats sto n xs with
          | none => simp [h2] at e
          | some ds => rw [dats_grow ih xs ds h2]; rw [h2] at e; exact e
        | arg xs => simp at e
        | obj => simp at e
        | app j => simp at e
        | cell Z => simp at e
    | none => simp [dat] at e ⊢; exact e
    | bool b => simp [dat] at e ⊢; exact e
    | int i => simp [dat] at e ⊢; exact e
    | str t => simp [dat] at e ⊢; exact e
theorem dat_pair {sto : List O} {n k : Nat} {X Y : V} {d e : PyData} (h : sto[k]? = some (.list [X, Y])) (h1 : dat sto n X = some d) (h2 : dat sto n Y = some e) : dat sto (n + 1) (.ref k) = some (.list [d, e]) := by
  rw [dat, h]; simp [dats, h1, h2]

/- _law_due -/
def wrap (t : T) : T := sl "(?>.*?" ++ (t ++ sl ")")
theorem mid_snoc (l : T) : ∀ ms : List T, mid (ms ++ [l]) = (ms.map wrap).flatten ++ (sl ".*" ++ l)
  | [] => by simp [mid]
  | [a] => by simp [mid, wrap]
  | a :: b :: r => by
    have ih := mid_snoc l (b :: r)
    show (sl "(?>.*?" ++ (a ++ sl ")")) ++ mid ((b :: r) ++ [l]) = _
    rw [ih]; simp [wrap]
def dotted (o : Option T) : Option T := o.map (fq [46])
/-- the rows once the rest is taken in -/
def thenRows (init : List T) (l : T) (os : List (Option T)) : List T := init ++ ((l ++ (rowsR (os.map dotted)).1) :: (rowsR (os.map dotted)).2)
structure DI (base : List O) (k r : Nat) (its : List (Option T)) (R : List T) (s : St) (os : List (Option T)) : Prop where
  nb : s.nb = base.length
  pre : Pre base s.sto
  hk : base.length ≤ k
  ne : r ≠ k
  items : s.loc "items" = some (.ref r)
  itemsO : s.sto[r]? = some (.list (its.map toN))
  rows : s.loc "rows" = some (.ref k)
  obj : ∃ init l, s.sto[k]? = some (.list ((init ++ [l]).map .str)) ∧ thenRows init l os = R
theorem due_loop {base : List O} {k r : Nat} {its : List (Option T)} {R : List T} {Q : Fl → St → Prop} (hR : R.length ≤ 10000 ∧ ∀ t ∈ R, t.length ≤ 100000) (hend : ∀ s, DI base k r its R s [] → Q .next s) :
    ∀ (os : List (Option T)) (s : St), DI base k r its R s os → forW (fun st => st.sto[r]? = some (.list (its.map toN))) "item" w_law_due_for2 (os.map toN) s Q
  | [], s, I => go_forNil I.itemsO (hend s I)
  | o :: os, s, I => by
    refine go_forCons I.itemsO ?_
    obtain ⟨inb, ipre, ihk, ine, iit, iito, irows, init, l, iobj, iR⟩ := I
    unfold w_law_due_for2
    refine go_cons ?_
    have hlen : init.length + 1 ≤ 10000 := by
      have := congrArg List.length iR
      simp [thenRows] at this; omega
    cases o with
    | none =>
      refine go_ift (BVal.cmp (op := .Is) (EVal.name St.get_same) (EVal.const (X := .none)) rfl) rfl (go_cons ?_)
      refine go_append (by (first | with_reducible assumption | with_reducible exact St.get_same | (with_reducible apply St.get_int; omega) | ((with_reducible (repeat (first | (apply St.get_ne; decide) | apply St.get_push | apply St.get_upd))); (first | with_reducible assumption | with_reducible exact St.get_same | (with_reducible apply St.get_int; omega))))) EVal.const iobj (by show s.nb ≤ k; omega) (by simp; omega) ?_
      repeat (first | with_reducible apply go_nil | with_reducible apply go_next)
      have e0 : sl "" = [] := by decide +kernel
      refine due_loop hR hend os _ ⟨inb, ipre.set _ ihk, ihk, ine, by (first | with_reducible assumption | with_reducible exact St.get_same | (with_reducible apply St.get_int; omega) | ((with_reducible (repeat (first | (apply St.get_ne; decide) | apply St.get_push | apply St.get_upd))); (first | with_reducible assumption | with_reducible exact St.get_same | (with_reducible apply St.get_int; omega)))), set_get_ne ine iito, by (first | with_reducible assumption | with_reducible exact St.get_same | (with_reducible apply St.get_int; omega) | ((with_reducible (repeat (first | (apply St.get_ne; decide) | apply St.get_push | apply St.get_upd))); (first | with_reducible assumption | with_reducible exact St.get_same | (with_reducible apply St.get_int; omega)))), init ++ [l], [], (set_get iobj).trans (by simp [e0]), ?_⟩
      rw [← iR]
      simp [thenRows, rowsR, dotted]
    | some t =>
      refine go_iff (BVal.cmp (op := .Is) (EVal.name St.get_same) (EVal.const (X := .none)) rfl) rfl (go_cons ?_)
      have hlt : l.length + (fq [46] t).length ≤ 100000 := by
        have h1 : l ++ (fq [46] t ++ (rowsR (os.map dotted)).1) ∈ R := by rw [← iR]; simp [thenRows, rowsR, dotted]
        have := hR.2 _ h1
        simp at this; omega
      have hval : EVal (wIte (bCmp .Eq (wName "item") (wC (.str (sl "?")))) (wC (.str (sl "."))) (wName "item")) (s.set "item" (.str t)) (.str (fq [46] t)) (s.set "item" (.str t)) := by
        have e63 : sl "?" = [63] := by decide +kernel
        have e46 : sl "." = [46] := by decide +kernel
        have ht := BVal.cmp (op := .Eq) (st := s.set "item" (.str t)) (EVal.name (x := "item") St.get_same) (EVal.const (X := .str (sl "?"))) rfl
        unfold fq
        by_cases q : t = [63]
        · rw [if_pos q]
          have : (t == sl "?") = true := by rw [q, e63]; rfl
          rw [this] at ht
          rw [← e46]
          exact EVal.ite_t ht EVal.const
        · rw [if_neg q]
          have : (t == sl "?") = false := by rw [e63]; simpa using q
          rw [this] at ht
          exact EVal.ite_f ht (EVal.name St.get_same)
      have hob : (s.set "item" (.str t)).sto[k]? = some (.list (init.map .str ++ [.str l])) := iobj.trans (by simp)
      refine go_setItem (k := k) (j := init.length) (i := -1) (EVal.bin (EVal.item (EVal.name (by (first | with_reducible assumption | with_reducible exact St.get_same | (with_reducible apply St.get_int; omega) | ((with_reducible (repeat (first | (apply St.get_ne; decide) | apply St.get_push | apply St.get_upd))); (first | with_reducible assumption | with_reducible exact St.get_same | (with_reducible apply St.get_int; omega)))))) EVal.const (itm_last hob (by simp; omega))) hval (bop_add (by omega))) (EVal.name (by (first | with_reducible assumption | with_reducible exact St.get_same | (with_reducible apply St.get_int; omega) | ((with_reducible (repeat (first | (apply St.get_ne; decide) | apply St.get_push | apply St.get_upd))); (first | with_reducible assumption | with_reducible exact St.get_same | (with_reducible apply St.get_int; omega)))))) EVal.const hob (by simp; omega) (by show s.nb ≤ k; omega) (by rw [List.length_append, List.length_map]; exact pix_last) ?_
      repeat (first | with_reducible apply go_nil | with_reducible apply go_next)
      refine due_loop hR hend os _ ⟨inb, ipre.set _ ihk, ihk, ine, by (first | with_reducible assumption | with_reducible exact St.get_same | (with_reducible apply St.get_int; omega) | ((with_reducible (repeat (first | (apply St.get_ne; decide) | apply St.get_push | apply St.get_upd))); (first | with_reducible assumption | with_reducible exact St.get_same | (with_reducible apply St.get_int; omega)))), set_get_ne ine iito, by (first | with_reducible assumption | with_reducible exact St.get_same | (with_reducible apply St.get_int; omega) | ((with_reducible (repeat (first | (apply St.get_ne; decide) | apply St.get_push | apply St.get_upd))); (first | with_reducible assumption | with_reducible exact St.get_same | (with_reducible apply St.get_int; omega)))), init, l ++ fq [46] t, (set_get iobj).trans (by simp), ?_⟩
      rw [← iR]
      simp [thenRows, rowsR, dotted]
theorem body_loop {k : Nat} {xs : List V} {B : T} {Q : Fl → St → Prop} (hB : B.length ≤ 100000) {P : St → Prop} (hP : ∀ s x X, x = "row" ∨ x = "body" → P s → P (s.set x X)) (hk : ∀ s, P s → s.sto[k]? = some (.list xs)) (hend : ∀ s, P s → s.loc "body" = some (.str B) → Q .next s) :
    ∀ (ms : List T) (b : T) (s : St), P s → s.loc "body" = some (.str b) → b ++ (ms.map wrap).flatten = B → forW (fun st => st.sto[k]? = some (.list xs)) "row" w_law_due_for1 (ms.map .str) s Q
  | [], b, s, p, h, e => go_forNil (hk s p) (hend s p (by rw [h, ← e]; simp))
  | m :: ms, b, s, p, h, e => by
    refine go_forCons (hk s p) ?_
    unfold w_law_due_for1
    have e2 : (sl "(?>.*?").length = 6 := by decide +kernel
    have e3 : (sl ")").length = 1 := by decide +kernel
    have hlen : b.length + (m.length + 7) ≤ 100000 := by
      have := congrArg List.length e
      simp [wrap] at this; omega
    refine go_cons (go_assign (EVal.bin (EVal.bin (EVal.bin (EVal.name (by (first | with_reducible assumption | with_reducible exact St.get_same | (with_reducible apply St.get_int; omega) | ((with_reducible (repeat (first | (apply St.get_ne; decide) | apply St.get_push | apply St.get_upd))); (first | with_reducible assumption | with_reducible exact St.get_same | (with_reducible apply St.get_int; omega)))))) EVal.const (bop_add (by omega))) (EVal.name (by (first | with_reducible assumption | with_reducible exact St.get_same | (with_reducible apply St.get_int; omega) | ((with_reducible (repeat (first | (apply St.get_ne; decide) | apply St.get_push | apply St.get_upd))); (first | with_reducible assumption | with_reducible exact St.get_same | (with_reducible apply St.get_int; omega)))))) (bop_add (by rw [List.length_append]; omega))) EVal.const (bop_add (by rw [List.length_append, List.length_append]; omega))) ?_)
    repeat (first | with_reducible apply go_nil | with_reducible apply go_next)
    refine body_loop hB hP hk hend ms _ _ (hP _ _ _ (.inr rfl) (hP _ _ _ (.inl rfl) p)) St.get_same ?_
    rw [← e]; simp [wrap]

theorem go_assignCall {x : String} {b : LW} {W : CW} {Xs : List V} {st st1 : St} {Q : Fl → St → Prop} (hb : LVal b st Xs st1) (h : W Xs st1 fun X st2 => Q .next (st2.set x X)) : sAssign x (wCall b W) st Q := hb _ h
theorem psl_inner {α : Type} (a b : α) (ms : List α) : psl (some 1) (some (-1)) (a :: (ms ++ [b])) = ms := by
  unfold psl
  have e1 : clipLo (some 1) (a :: (ms ++ [b])).length = 1 := by
    unfold clipLo; simp; omega
  have e2 : clipHi (some (-1)) (a :: (ms ++ [b])).length = ms.length + 1 := by
    unfold clipHi; simp; omega
  rw [e1, e2]; simp
theorem psl_inner1 {α : Type} (a : α) : psl (some 1) (some (-1)) [a] = [] := by
  unfold psl
  have e1 : clipLo (some 1) [a].length = 1 := by unfold clipLo; rfl
  rw [e1]; simp
def dueD (x : T) : PyData := .list [.list ((lawItems x).map fun o => pyS (qO o)), .list [pyS (qd (wholeL ((lawItems x).map dotted)))]]
theorem total_dot : ∀ os : List (Option T), total (os.map dotted) ≤ total os ∧ (os.map dotted).length = os.length
  | [] => by simp [total]
  | none :: r => by have := total_dot r; simp [total, dotted] at this ⊢; omega
  | some t :: r => by
    have := total_dot r
    have h2 : (fq [46] t).length ≤ t.length := by unfold fq; split <;> simp_all
    simp [total, dotted] at this ⊢; omega
theorem lsum_mem : ∀ {ts : List T} {t : T}, t ∈ ts → t.length ≤ lsum ts
  | a :: r, t, h => by
    rcases List.mem_cons.mp h with rfl | h
    · simp [lsum]
    · have := lsum_mem h
      simp [lsum] at this ⊢; omega
theorem total_mem : ∀ {os : List (Option T)} {t : T}, some t ∈ os → t.length ≤ total os
  | a :: r, t, h => by
    rcases List.mem_cons.mp h with rfl | h
    · simp [total]
    · have := total_mem h
      simp [total] at this ⊢; omega
theorem spec_due {x : T} {st : St} {Q : V → St → Prop} (hx : x.length ≤ 60) (hok : OkT x) (h : ∀ s' r, Pre st.sto s' → dat s' 2 (.ref r) = some (dueD x) → Q (.ref r) ⟨st.loc, s', st.nb⟩) : w_law_due [.str x] st Q := by
  refine go_def rfl fun s hs hnb hloc => ?_
  unfold b_law_due
  have hl : s.loc "pattern" = some (.str x) := by rw [hloc]; rfl
  have e0 : sl "" = [] := by decide +kernel
  obtain ⟨b1, b2⟩ := lawItems_len x
  have b3 : (x.length + 4) * x.length ≤ 64 * 60 := Nat.mul_le_mul (by omega) hx
  obtain ⟨d1, d2⟩ := total_dot (lawItems x)
  obtain ⟨r1, r2⟩ := rows_len ((lawItems x).map dotted)
  have bl := body_len ((lawItems x).map dotted)
  generalize hits : lawItems x = its at b1 b2 d1 d2 r1 r2 bl
  generalize hH : (rowsR (its.map dotted)).1 = hd at r1 r2
  generalize hTl : (rowsR (its.map dotted)).2 = tl at r1 r2
  have hbody : body (rowsR (its.map dotted)) = hd ++ mid tl := by unfold body; rw [hH, hTl]
  rw [hbody] at bl
  refine go_cons (go_assignCall (LVal.cons (EVal.name hl) LVal.nil) (spec_items (by omega) hok fun s1 ri hpre1 hri => go_next ?_))
  rw [hits] at hri
  rw [hs] at hpre1
  refine go_cons (go_assign (EVal.list (LVal.cons EVal.const LVal.nil) (by simp)) (go_next (go_cons ?_)))
  have hri2 : (s1 ++ [O.list [.str (sl "")]])[ri]? = some (.list (its.map toN)) := push_get hri
  refine go_for_list (k := ri) (EVal.name (by (first | with_reducible assumption | with_reducible exact St.get_same | (with_reducible apply St.get_int; omega) | ((with_reducible (repeat (first | (apply St.get_ne; decide) | apply St.get_push | apply St.get_upd))); (first | with_reducible assumption | with_reducible exact St.get_same | (with_reducible apply St.get_int; omega)))))) hri2 ?_
  refine due_loop (base := st.sto) (k := s1.length) (r := ri) (its := its) (R := hd :: tl) ⟨by simp; omega, fun t ht => ?_⟩ ?_ its _ ⟨hnb, hpre1.push _, hpre1.le, Nat.ne_of_lt (lt_of_get hri), by (first | with_reducible assumption | with_reducible exact St.get_same | (with_reducible apply St.get_int; omega) | ((with_reducible (repeat (first | (apply St.get_ne; decide) | apply St.get_push | apply St.get_upd))); (first | with_reducible assumption | with_reducible exact St.get_same | (with_reducible apply St.get_int; omega)))), hri2, by exact St.get_same, [], [], push_new.trans (by rw [e0]; rfl), by unfold thenRows; rw [hH, hTl]; rfl⟩
  · have h1 := lsum_mem ht
    have h2 : lsum (hd :: tl) = hd.length + lsum tl := by simp [lsum]
    omega
  · rintro s2 ⟨inb, ipre, ihk, ine, iit, iito, irows, init, l, iobj, iR⟩
    have hR : init ++ [l] = hd :: tl := by rw [← iR]; simp [thenRows, rowsR]
    rw [hR] at iobj
    have hlen : ((hd :: tl).map V.str).length ≤ 16777216 := by simp; omega
    refine go_next (go_cons (go_assign (EVal.item (EVal.name irows) EVal.const (itm_list (k := 0) iobj rfl rfl hlen)) (go_next (go_cons ?_))))
    -- the middle rows
    obtain ⟨ms, lst, hms, hB⟩ : ∃ ms lst, psl (some 1) (some (-1)) ((hd :: tl).map V.str) = ms.map V.str ∧ (tl = [] ∧ ms = [] ∧ hd ++ (ms.map wrap).flatten = hd ++ mid tl ∨ tl = ms ++ [lst] ∧ hd ++ (ms.map wrap).flatten ++ (sl ".*" ++ lst) = hd ++ mid tl) := by
      rcases List.eq_nil_or_concat tl with rfl | ⟨ms, lst, rfl⟩
      · exact ⟨[], [], psl_inner1 _, .inl ⟨rfl, rfl, by simp [mid]⟩⟩
      · refine ⟨ms, lst, ?_, .inr ⟨by simp, ?_⟩⟩
        · rw [List.concat_eq_append, List.map_cons, List.map_append]
          exact psl_inner _ _ _
        · rw [List.concat_eq_append, mid_snoc]; simp
    have hsl := EVal.slice_list (a := wName "rows") (st := s2.set "body" (.str hd)) (EVal.name (by (first | with_reducible assumption | with_reducible exact St.get_same | (with_reducible apply St.get_int; omega) | ((with_reducible (repeat (first | (apply St.get_ne; decide) | apply St.get_push | apply St.get_upd))); (first | with_reducible assumption | with_reducible exact St.get_same | (with_reducible apply St.get_int; omega)))))) (PVal.so (EVal.const (X := .int 1))) (PVal.so (EVal.const (X := .int (-1)))) iobj hlen
    rw [hms] at hsl
    refine go_for_list hsl push_new ?_
    have hbl : (hd ++ (ms.map wrap).flatten).length ≤ 10000 := by
      rcases hB with ⟨_, _, e⟩ | ⟨_, e⟩
      · rw [e]; omega
      · have := congrArg List.length e
        rw [List.length_append] at this; omega
    refine body_loop (B := hd ++ (ms.map wrap).flatten) (by omega) (P := fun s => s.nb = st.sto.length ∧ s.sto = s2.sto ++ [O.list (ms.map V.str)] ∧ s.loc "items" = some (.ref ri) ∧ s.loc "rows" = some (.ref s1.length)) ?_ ?_ ?_ ms hd _ ⟨inb, rfl, St.get_push (St.get_ne (by decide) iit), St.get_push (St.get_ne (by decide) irows)⟩ (by (first | with_reducible assumption | with_reducible exact St.get_same | (with_reducible apply St.get_int; omega) | ((with_reducible (repeat (first | (apply St.get_ne; decide) | apply St.get_push | apply St.get_upd))); (first | with_reducible assumption | with_reducible exact St.get_same | (with_reducible apply St.get_int; omega))))) rfl
    · rintro s y X hy ⟨p1, p2, p3, p4⟩
      refine ⟨p1, p2, ?_, ?_⟩
      · rcases hy with rfl | rfl <;> (first | with_reducible assumption | with_reducible exact St.get_same | (with_reducible apply St.get_int; omega) | ((with_reducible (repeat (first | (apply St.get_ne; decide) | apply St.get_push | apply St.get_upd))); (first | with_reducible assumption | with_reducible exact St.get_same | (with_reducible apply St.get_int; omega))))
      · rcases hy with rfl | rfl <;> (first | with_reducible assumption | with_reducible exact St.get_same | (with_reducible apply St.get_int; omega) | ((with_reducible (repeat (first | (apply St.get_ne; decide) | apply St.get_push | apply St.get_upd))); (first | with_reducible assumption | with_reducible exact St.get_same | (with_reducible apply St.get_int; omega))))
    · rintro s ⟨p1, p2, p3, p4⟩
      rw [p2]; exact push_new
    · rintro s3 ⟨p1, p2, p3, p4⟩ p5
      have q1 : s3.sto[ri]? = some (.list (its.map toN)) := by rw [p2]; exact push_get iito
      have q2 : s3.sto[s1.length]? = some (.list ((hd :: tl).map .str)) := by rw [p2]; exact push_get iobj
      have q3 : Pre st.sto s3.sto := by rw [p2]; exact ipre.push _
      have fin : ∀ (s4 : St), s4.sto = s3.sto → s4.loc "items" = some (.ref ri) → s4.loc "body" = some (.str (hd ++ mid tl)) →
          (sCons (sRet (wList (lCons (wComp "item" (wName "items") (wIte (bCmp .Is (wName "item") (wC .none)) (wC (.str (sl "*"))) (wBin .Add (wBin .Add (wC (.str (sl "\""))) (wName "item")) (wC (.str (sl "\"")))))) (lCons (wList (lCons (wBin .Add (wBin .Add (wC (.str (sl "\"(?s:"))) (wName "body")) (wC (.str (sl ")Z\"")))) lNil)) lNil)))) sNil) s4 (kFn st Q) := by
        intro s4 w1 w2 w3
        have l34 : (sl "\"").length = 1 := by decide +kernel
        have l5 : (sl "\"(?s:").length = 5 := by decide +kernel
        have l6 : (sl ")Z\"").length = 3 := by decide +kernel
        have e34 : sl "\"" = [34] := by decide +kernel
        have e42 : sl "*" = [42] := by decide +kernel
        have q1' : s4.sto[ri]? = some (.list (its.map toN)) := by rw [w1]; exact q1
        have hc : EVal (wComp "item" (wName "items") (wIte (bCmp .Is (wName "item") (wC .none)) (wC (.str (sl "*"))) (wBin .Add (wBin .Add (wC (.str (sl "\""))) (wName "item")) (wC (.str (sl "\"")))))) s4 (.ref s4.sto.length) (s4.push (.list (its.map fun o => .str (qO o)))) := by
          refine EVal.comp (EVal.name w2) q1' fun Q' q => comp_plain (g := fun X => match X with | .str t => .str (qd t) | _ => .str [42]) _ [] s4 q1' (by simp; omega) (fun X hX s5 h3 h4 h5 => ?_) ?_
          · obtain ⟨o, ho, rfl⟩ := List.mem_map.mp hX
            cases o with
            | none => exact EVal.ite_t (BVal.cmp (op := .Is) (EVal.name h3) (EVal.const (X := .none)) rfl) (by show EVal _ _ (.str [42]) _; rw [← e42]; exact EVal.const)
            | some t =>
              have := total_mem ho
              refine EVal.ite_f (BVal.cmp (op := .Is) (EVal.name h3) (EVal.const (X := .none)) rfl) ?_
              have := EVal.bin (op := .Add) (EVal.bin (op := .Add) (EVal.const (st := s5) (X := .str (sl "\""))) (EVal.name h3) (bop_add (x := sl "\"") (y := t) (by omega))) (EVal.const (X := .str (sl "\""))) (bop_add (by rw [List.length_append]; omega))
              rw [e34] at this
              show EVal _ _ (.str (qd t)) _
              unfold qd
              rw [e34]
              simpa using this
          · have : (([] : List V) ++ (its.map toN).map fun X => match X with | .str t => V.str (qd t) | _ => .str [42]) = its.map fun o => .str (qO o) := by
              rw [List.nil_append, List.map_map]
              refine List.map_congr_left fun o _ => ?_
              cases o <;> rfl
            rw [this]; exact q
        have hw : EVal (wList (lCons (wBin .Add (wBin .Add (wC (.str (sl "\"(?s:"))) (wName "body")) (wC (.str (sl ")Z\"")))) lNil)) (s4.push (.list (its.map fun o => .str (qO o)))) (.ref (s4.sto.length + 1)) ((s4.push (.list (its.map fun o => .str (qO o)))).push (.list [.str (qd (wholeL (its.map dotted)))])) := by
          have hb := EVal.bin (op := .Add) (EVal.bin (op := .Add) (EVal.const (st := s4.push (.list (its.map fun o => .str (qO o)))) (X := .str (sl "\"(?s:"))) (EVal.name (x := "body") w3) (bop_add (by omega))) (EVal.const (X := .str (sl ")Z\""))) (bop_add (by rw [List.length_append]; omega))
          have hval : sl "\"(?s:" ++ (hd ++ mid tl) ++ sl ")Z\"" = qd (wholeL (its.map dotted)) := by
            have e5 : sl "\"(?s:" = 34 :: sl "(?s:" := by decide +kernel
            have e6 : sl ")Z\"" = sl ")Z" ++ [34] := by decide +kernel
            unfold qd wholeL
            rw [hbody, e5, e6]; simp
          rw [hval] at hb
          have := EVal.list (LVal.cons hb LVal.nil) (by simp)
          have hlen : (s4.push (.list (its.map fun o => .str (qO o)))).sto.length = s4.sto.length + 1 := by simp [St.push]
          rw [hlen] at this; exact this
        refine go_cons (go_ret (EVal.list (LVal.cons hc (LVal.cons hw LVal.nil)) (by simp)) (go_kret (go_fnret ?_)))
        refine h _ _ ?_ ?_
        · show Pre st.sto (((s4.sto ++ [_]) ++ [_]) ++ [_])
          rw [w1]; exact ((q3.push _).push _).push _
        · show dat (((s4.sto ++ [_]) ++ [_]) ++ [_]) 2 (.ref (((s4.sto ++ [_]) ++ [_]).length)) = _
          unfold dueD
          rw [hits]
          refine dat_pair push_new ?_ ?_
          · have := dat_strs (sto := ((s4.sto ++ [O.list (its.map fun o => .str (qO o))]) ++ [O.list [.str (qd (wholeL (its.map dotted)))]]) ++ [O.list [.ref s4.sto.length, .ref (s4.sto.length + 1)]]) (n := 0) (ts := its.map qO) (push_get (push_get (push_new.trans (by simp))))
            rw [List.map_map] at this
            exact this
          · refine dat_strs (ts := [qd (wholeL (its.map dotted))]) (push_get ?_)
            have : (s4.sto ++ [O.list (its.map fun o => .str (qO o))]).length = s4.sto.length + 1 := by simp
            rw [← this]; exact push_new
      refine go_next (go_cons ?_)
      have hlt : BVal (bCmp .Gt (wCall (lCons (wName "rows") lNil) cLen) (wC (.int 1))) s3 (decide ((((hd :: tl).map V.str).length : Int) > 1)) s3 :=
        BVal.cmp (EVal.call (LVal.cons (EVal.name p4) LVal.nil) (CVal.len_list q2 hlen)) EVal.const rfl
      rcases hB with ⟨htl, hmsn, e⟩ | ⟨htl, e⟩
      · refine go_iff hlt (decide_eq_false (by rw [htl]; simp)) (go_nil (go_next ?_))
        exact fin s3 rfl p3 (by rw [p5, e])
      · refine go_ift hlt (decide_eq_true (by rw [htl]; simp; omega)) ?_
        have l2 : (sl ".*").length = 2 := by decide +kernel
        have hll := congrArg List.length e
        rw [List.length_append, List.length_append (as := sl ".*")] at hll
        have hq2 : s3.sto[s1.length]? = some (.list ((hd :: ms).map V.str ++ [.str lst])) := by rw [q2, htl]; simp
        refine go_cons (go_assign (EVal.bin (EVal.bin (EVal.name p5) EVal.const (bop_add (by omega))) (EVal.item (EVal.name p4) EVal.const (itm_last hq2 (by have := congrArg List.length htl; simp at this ⊢; omega))) (bop_add (by rw [List.length_append]; omega))) (go_next (go_nil (go_next ?_))))
        refine fin _ ?_ (by (first | with_reducible assumption | with_reducible exact St.get_same | (with_reducible apply St.get_int; omega) | ((with_reducible (repeat (first | (apply St.get_ne; decide) | apply St.get_push | apply St.get_upd))); (first | with_reducible assumption | with_reducible exact St.get_same | (with_reducible apply St.get_int; omega))))) ?_
        · rfl
        · rw [List.append_assoc, e]; exact St.get_same
def toV (k : Nat) : Option T → V
  | none => .ref k
  | some t => .str t
theorem go_add {x : String} {a : EW} {ka j : Nat} {xs : List V} {Y : V} {st : St} {Q : Fl → St → Prop} (h : st.loc x = some (.ref ka)) (ha : EVal a st Y st) (hk : st.sto[ka]? = some (.app j)) (hj : st.sto[j]? = some (.list xs)) (hn : st.nb ≤ j) (hl : xs.length ≤ 16777216)
    (q : Q .next (st.upd j (.list (xs ++ [Y])))) : sExpr (wAdd x (lCons a lNil)) st Q := go_expr (EVal.add h (LVal.cons ha LVal.nil) hk hj hn hl) q
theorem drop_at {α : Type} {xs : List α} {i : Nat} {o : α} (h : xs[i]? = some o) : xs.drop i = o :: xs.drop (i + 1) := by
  obtain ⟨q, e⟩ := List.getElem?_eq_some_iff.mp h
  rw [List.drop_eq_getElem_cons q, e]
theorem texts_strs : ∀ ts : List T, texts (ts.map .str) = some ts
  | [] => rfl
  | t :: ts => by rw [List.map_cons, texts, texts_strs ts]; rfl
def isTxt : Option (Option T) → Bool
  | some (some _) => true
  | _ => false
structure JI (base : List O) (r k k0 ka : Nat) (its : List (Option T)) (s : St) (i : Nat) (ps : List T) : Prop where
  nb : s.nb = base.length
  pre : Pre base s.sto
  hk : base.length ≤ k0
  hka : k0 < ka
  inp : s.loc "inp" = some (.ref r)
  inpO : base[r]? = some (.list (its.map (toV k)))
  star : s.loc "STAR" = some (.ref k)
  add : s.loc "add" = some (.ref ka)
  addO : s.sto[ka]? = some (.app k0)
  vn : s.loc "n" = some (.int (its.length : Nat))
  vi : s.loc "i" = some (.int (i : Nat))
  res : s.loc "res" = some (.ref k0)
  obj : s.sto[k0]? = some (.list (ps.map .str))
  ile : i ≤ its.length
  plen : ps.length ≤ 2 * i + 2
section
variable {base : List O} {r k k0 ka : Nat} {its : List (Option T)} {s : St} {i : Nat} {ps : List T}
theorem JI.itm (I : JI base r k k0 ka its s i ps) (hl : its.length ≤ 10000) {o : Option T} (h : its[i]? = some o) : EVal (wItem (wName "inp") (wName "i")) s (toV k o) s :=
  EVal.item (EVal.name I.inp) (EVal.name I.vi) (itm_list (k := i) (I.pre.get I.inpO) rfl (by rw [List.getElem?_map, h]; rfl) (by simp; omega))
theorem JI.lt (I : JI base r k k0 ka its s i ps) : BVal (bCmp .Lt (wName "i") (wName "n")) s (decide (i < its.length)) s := by
  have := BVal.cmp (op := .Lt) (EVal.name I.vi) (EVal.name I.vn) rfl
  have e : decide ((i : Int) < (its.length : Int)) = decide (i < its.length) := by
    by_cases h : i < its.length
    · rw [decide_eq_true h, decide_eq_true (by omega)]
    · rw [decide_eq_false h, decide_eq_false (by omega)]
  rw [e] at this; exact this
theorem JI.isNot (I : JI base r k k0 ka its s i ps) (hl : its.length ≤ 10000) {o : Option T} (h : its[i]? = some o) : BVal (bCmp .IsNot (wItem (wName "inp") (wName "i")) (wName "STAR")) s o.isSome s := by
  refine BVal.cmp (I.itm hl h) (EVal.name I.star) ?_
  cases o with
  | none => show some (!(k == k)) = some false; simp
  | some t => rfl
theorem JI.is (I : JI base r k k0 ka its s i ps) (hl : its.length ≤ 10000) (h : its[i]? = some none) : BVal (bCmp .Is (wItem (wName "inp") (wName "i")) (wName "STAR")) s true s := by
  refine BVal.cmp (I.itm hl h) (EVal.name I.star) ?_
  show some (k == k) = some true; simp
/-- i < n and inp[i] is not STAR -/
theorem JI.test (I : JI base r k k0 ka its s i ps) (hl : its.length ≤ 10000) : BVal (bAnd (bCmp .Lt (wName "i") (wName "n")) (bCmp .IsNot (wItem (wName "inp") (wName "i")) (wName "STAR"))) s (isTxt its[i]?) s := by
  by_cases hlt : i < its.length
  · obtain ⟨o, ho⟩ : ∃ o, its[i]? = some o := ⟨_, List.getElem?_eq_getElem hlt⟩
    have := BVal.and' I.lt (fun _ => I.isNot hl ho)
    have e : (decide (i < its.length) && o.isSome) = isTxt its[i]? := by
      rw [decide_eq_true hlt, ho]
      cases o <;> rfl
    rw [e] at this; exact this
  · have := BVal.and' (u := bCmp .IsNot (wItem (wName "inp") (wName "i")) (wName "STAR")) (r' := false) I.lt (fun e => by simp at e; omega)
    have e : (decide (i < its.length) && false) = isTxt its[i]? := by
      rw [List.getElem?_eq_none (by omega)]; simp [isTxt]
    rw [e] at this; exact this
theorem JI.inc (I : JI base r k k0 ka its s i ps) (h : i < its.length) : JI base r k k0 ka its (s.set "i" (.int ((i : Int) + 1))) (i + 1) ps :=
  ⟨I.nb, I.pre, I.hk, I.hka, St.get_ne (by decide) I.inp, I.inpO, St.get_ne (by decide) I.star, St.get_ne (by decide) I.add, I.addO, St.get_ne (by decide) I.vn, St.get_int (by omega), St.get_ne (by decide) I.res, I.obj, by omega, by have := I.plen; omega⟩
theorem JI.push (I : JI base r k k0 ka its s i ps) (o : O) : JI base r k k0 ka its (s.push o) i ps :=
  ⟨I.nb, I.pre.push _, I.hk, I.hka, I.inp, I.inpO, I.star, I.add, push_get I.addO, I.vn, I.vi, I.res, push_get I.obj, I.ile, I.plen⟩
theorem JI.fixed (I : JI base r k k0 ka its s i ps) (X : V) : JI base r k k0 ka its (s.set "fixed" X) i ps :=
  ⟨I.nb, I.pre, I.hk, I.hka, St.get_ne (by decide) I.inp, I.inpO, St.get_ne (by decide) I.star, St.get_ne (by decide) I.add, I.addO, St.get_ne (by decide) I.vn, St.get_ne (by decide) I.vi, St.get_ne (by decide) I.res, I.obj, I.ile, I.plen⟩
theorem JI.upd (I : JI base r k k0 ka its s i ps) {m : Nat} (o : O) (h1 : k0 < m) (h2 : ka < m) : JI base r k k0 ka its (s.upd m o) i ps :=
  ⟨I.nb, I.pre.set _ (by have := I.hk; omega), I.hk, I.hka, I.inp, I.inpO, I.star, I.add, set_get_ne (by omega) I.addO, I.vn, I.vi, I.res, set_get_ne (by omega) I.obj, I.ile, I.plen⟩
theorem JI.more (I : JI base r k k0 ka its s i ps) {i' : Nat} (t : T) (hi : i' = i) (hp : ps.length + 1 ≤ 2 * i + 2) : JI base r k k0 ka its (s.upd k0 (.list (ps.map .str ++ [.str t]))) i' (ps ++ [t]) := by
  subst hi
  exact ⟨I.nb, I.pre.set _ I.hk, I.hk, I.hka, I.inp, I.inpO, I.star, I.add, set_get_ne (by have := I.hka; omega) I.addO, I.vn, I.vi, I.res, (set_get I.obj).trans (by simp), I.ile, by simp; omega⟩
end

theorem go_append' {o : String} {a : EW} {k : Nat} {xs : List V} {Y : V} {st : St} {Q : Fl → St → Prop} (ho : st.loc o = some (.ref k)) (ha : EVal a st Y st) (hk : st.sto[k]? = some (.list xs)) (hn : st.nb ≤ k) (hl : xs.length ≤ 16777216) (h : Q .next (st.upd k (.list (xs ++ [Y])))) :
    sExpr (wMethL (wName o) (lCons a lNil) cAppend) st Q := go_append ho ha hk hn hl h
theorem spec_join {r k : Nat} {its : List (Option T)} {st : St} {Q : V → St → Prop} (hl : its.length ≤ 1000) (hna : NA its) (hin : st.sto[r]? = some (.list (its.map (toV k)))) (hB : (body (rowsR its)).length ≤ 100000)
    (h : ∀ s', Pre st.sto s' → Q (.str (whole its)) ⟨st.loc, s', st.nb⟩) : w_join_translated_parts [.ref r, .ref k] st Q := by
  refine go_def rfl fun s hs hnb hloc => ?_
  unfold b_join_translated_parts
  have hl1 : s.loc "inp" = some (.ref r) := by rw [hloc]; rfl
  have hl2 : s.loc "STAR" = some (.ref k) := by rw [hloc]; rfl
  have e1 : sl ".*" = [46, 42] := by decide +kernel
  refine go_cons (go_assign (EVal.list LVal.nil (by simp)) (go_next (go_cons (go_assign (EVal.app (k := s.sto.length) (xs := []) (by (first | with_reducible assumption | with_reducible exact St.get_same | (with_reducible apply St.get_int; omega) | ((with_reducible (repeat (first | (apply St.get_ne; decide) | apply St.get_push | apply St.get_upd))); (first | with_reducible assumption | with_reducible exact St.get_same | (with_reducible apply St.get_int; omega))))) push_new) (go_next (go_cons ?_))))))
  have hri : (((s.sto ++ [O.list []]) ++ [O.app s.sto.length]))[r]? = some (.list (its.map (toV k))) := push_get (push_get (by rw [hs]; exact hin))
  have hri2 := CVal.len_list (st := (((s.push (.list [])).set "res" (.ref s.sto.length)).push (.app s.sto.length)).set "add" (.ref (s.sto ++ [O.list []]).length)) hri (by simp; omega)
  rw [List.length_map] at hri2
  refine go_pair EVal.const (EVal.call (LVal.cons (EVal.name (by (first | with_reducible assumption | with_reducible exact St.get_same | (with_reducible apply St.get_int; omega) | ((with_reducible (repeat (first | (apply St.get_ne; decide) | apply St.get_push | apply St.get_upd))); (first | with_reducible assumption | with_reducible exact St.get_same | (with_reducible apply St.get_int; omega)))))) LVal.nil) hri2) (go_next (go_cons ?_))
  have I0 : ∀ s0 : St, s0.nb = s.nb → s0.sto = (s.sto ++ [O.list []]) ++ [O.app s.sto.length] → s0.loc "inp" = some (.ref r) → s0.loc "STAR" = some (.ref k) → s0.loc "add" = some (.ref (s.sto ++ [O.list []]).length) → s0.loc "n" = some (.int (its.length : Nat)) → s0.loc "i" = some (.int (0 : Nat)) → s0.loc "res" = some (.ref s.sto.length) →
      JI st.sto r k s.sto.length (s.sto ++ [O.list []]).length its s0 0 [] := fun s0 q1 q2 q3 q4 q5 q6 q7 q8 =>
    ⟨by rw [q1, hnb], by rw [q2, hs]; exact (Pre.rfl'.push _).push _, by rw [hs]; exact Nat.le_refl _, by simp, q3, hin, q4, q5, by rw [q2]; exact push_new, q6, q7, q8, by rw [q2]; exact push_get push_new, Nat.zero_le _, by simp⟩
  generalize hB' : body (rowsR its) = B at hB
  -- what is left once the items are taken in
  have fin : ∀ (s1 : St) (ps : List T), JI st.sto r k s.sto.length (s.sto ++ [O.list []]).length its s1 its.length ps → ps.flatten = B →
      (sCons (sAssert (bCmp .Eq (wName "i") (wName "n"))) (sCons (sAssign "res" (wMethS (wC (.str (sl ""))) (lCons (wName "res") lNil) cJoin)) (sCons (sRet (wF3 "(?s:" (wName "res") ")\\Z")) sNil))) s1 (kFn st Q) := by
    intro s1 ps I hps
    have hlen := flat_len ps
    rw [hps] at hlen
    have e0 : sl "" = [] := by decide +kernel
    have hj : EVal (wMethS (wC (.str (sl ""))) (lCons (wName "res") lNil) cJoin) s1 (.str B) s1 := by
      refine EVal.methS EVal.const (LVal.cons (EVal.name I.res) LVal.nil) ?_
      have := CVal.join (sep := sl "") I.obj (texts_strs ps) (by rw [e0, ← hlen]; simp; omega)
      rw [e0, joins_flat, hps] at this
      rw [e0]; exact this
    have l5 : (sl "(?s:").length = 4 := by decide +kernel
    have l6 : (sl ")\\Z").length = 3 := by decide +kernel
    have ht : BVal (bCmp .Eq (wName "i") (wName "n")) s1 true s1 := BVal.cmp (EVal.name I.vi) (EVal.name I.vn) (by show some _ = some _; simp)
    refine go_cons (go_assert ht (go_next (go_cons (go_assign hj (go_next (go_cons (go_ret (EVal.f3 (EVal.name St.get_same) (by omega)) (go_kret (go_fnret ?_))))))))) 
    have := h s1.sto I.pre
    unfold whole at this
    rw [hB'] at this
    exact this
  -- the rows behind the first
  have second : ∀ (s1 : St) (i : Nat) (ps : List T), JI st.sto r k s.sto.length (s.sto ++ [O.list []]).length its s1 i ps → ps.length ≤ 2 * i → (i = its.length ∨ its[i]? = some none) → ps.flatten ++ body (rowsR (its.drop i)) = B →
      (sCons (sWhile (bCmp .Lt (wName "i") (wName "n")) w_join_translated_parts_while1) (sCons (sAssert (bCmp .Eq (wName "i") (wName "n"))) (sCons (sAssign "res" (wMethS (wC (.str (sl ""))) (lCons (wName "res") lNil) cJoin)) (sCons (sRet (wF3 "(?s:" (wName "res") ")\\Z")) sNil)))) s1 (kFn st Q) := by
    intro s1 i ps I hp hi hBi
    refine go_cons (go_while (fun n s2 => ∃ i ps, JI st.sto r k s.sto.length (s.sto ++ [O.list []]).length its s2 i ps ∧ ps.length ≤ 2 * i ∧ (i = its.length ∨ its[i]? = some none) ∧ ps.flatten ++ body (rowsR (its.drop i)) = B ∧ n = its.length - i) _ ⟨i, ps, I, hp, hi, hBi, rfl⟩ ?_)
    clear I hp hi hBi ps i s1
    rintro n s1 ⟨i, ps, I, hp, hi, hBi, hn⟩
    refine go_b I.lt ?_
    by_cases hlt : i < its.length
    · rw [decide_eq_true hlt]
      refine go_tt ?_
      have hio : its[i]? = some none := hi.resolve_left (by omega)
      have hd := drop_at hio
      rw [hd, body_none] at hBi
      unfold w_join_translated_parts_while1
      refine go_cons (go_assert (I.is (by omega) hio) (go_next (go_cons (go_aug I.vi EVal.const iop_addi (go_next (go_cons ?_))))))
      have I1 := I.inc hlt
      generalize s1.set "i" (.int ((i : Int) + 1)) = s2 at I1 ⊢
      have hobl : ps.length ≤ 2000 := by omega
      have ht : BVal (bCmp .Eq (wName "i") (wName "n")) s2 (decide (i + 1 = its.length)) s2 := BVal.cmp (EVal.name I1.vi) (EVal.name I1.vn) (by
        show some _ = some _
        by_cases q : i + 1 = its.length
        · rw [q]; simp
        · rw [decide_eq_false q]; simp; omega)
      by_cases hend : i + 1 = its.length
      · rw [List.drop_eq_nil_of_le (by omega)] at hBi
        refine go_ift ht (decide_eq_true hend) (go_cons (go_add I1.add EVal.const I1.addO I1.obj (by rw [I1.nb]; exact I1.hk) (by simp; omega) (go_next (go_cons (go_fl (go_kbrk (go_kbrk (go_lbrk (go_next ?_)))))))))
        have I2 := I1.more (sl ".*") hend.symm (by omega)
        refine fin _ _ I2 ?_
        rw [← hBi]; simp [rowsR, mid]
      · refine go_iff ht (decide_eq_false hend) (go_nil (go_next (go_cons ?_)))
        have hi1 : i + 1 < its.length := by omega
        obtain ⟨t, ht1⟩ : ∃ t, its[i + 1]? = some (some t) := by
          cases ho : its[i + 1]? with
          | none => rw [List.getElem?_eq_none_iff] at ho; omega
          | some o =>
            cases o with
            | none => exact absurd ho (hna i hio)
            | some t => exact ⟨t, rfl⟩
        refine go_assert (I1.isNot (by omega) ht1) (go_next (go_cons (go_assign (EVal.list LVal.nil (by simp)) (go_next (go_cons ?_)))))
        -- the row's items
        refine go_while (fun n s3 => ∃ (m j : Nat) (fs : List T), JI st.sto r k s.sto.length (s.sto ++ [O.list []]).length its s3 j ps ∧ s3.loc "fixed" = some (.ref m) ∧ s.sto.length < m ∧ (s.sto ++ [O.list []]).length < m ∧ s3.sto[m]? = some (.list (fs.map .str)) ∧ fs.map some ++ its.drop j = its.drop (i + 1) ∧ i + 1 ≤ j ∧ fs.length ≤ j ∧ n = its.length - j) _
          ⟨s2.sto.length, i + 1, [], (I1.push _).fixed _, St.get_same, lt_of_get I1.obj, lt_of_get I1.addO, push_new, by simp, Nat.le_refl _, by simp, rfl⟩ ?_
        clear ht1 ht
        rintro n3 s3 ⟨m, j, fs, I3, hf, hm1, hm2, hmo, hfs, hij, hfl, hn3⟩
        refine go_b (I3.test (by omega)) ?_
        have hrow := rows_some fs (its.drop j)
        rw [hfs] at hrow
        have hjoin : EVal (wMethS (wC (.str (sl ""))) (lCons (wName "fixed") lNil) cJoin) s3 (.str fs.flatten) s3 ∧ (fs.flatten).length ≤ 100000 := by
          have e0 : sl "" = [] := by decide +kernel
          have hlen := flat_len fs
          have hle : (fs.flatten).length ≤ 100000 := by
            have := congrArg List.length hBi
            rw [hrow] at this
            rw [List.length_append] at this
            have h2 : (fs.flatten).length ≤ (mid ((fs.flatten ++ (rowsR (its.drop j)).1) :: (rowsR (its.drop j)).2)).length := by
              cases (rowsR (its.drop j)).2 with
              | nil => simp [mid]; omega
              | cons a r => simp [mid]; omega
            simp only at this
            omega
          refine ⟨?_, hle⟩
          refine EVal.methS EVal.const (LVal.cons (EVal.name hf) LVal.nil) ?_
          have := CVal.join (sep := sl "") hmo (texts_strs fs) (by rw [e0]; simp only [List.length_nil, Nat.mul_zero, Nat.add_zero]; omega)
          rw [e0, joins_flat] at this
          rw [e0]; exact this
        rw [hrow] at hBi
        have I4 := I3.fixed (.str fs.flatten)
        have hf4 : (s3.set "fixed" (.str fs.flatten)).loc "fixed" = some (.str fs.flatten) := St.get_same
        cases hj : its[j]? with
        | none =>
          have hjn : j = its.length := by have := I3.ile; rw [List.getElem?_eq_none_iff] at hj; omega
          refine go_tf (go_next (go_cons (go_assign hjoin.1 (go_next (go_cons ?_)))))
          generalize s3.set "fixed" (.str fs.flatten) = s4 at I4 hf4 ⊢
          have ht : BVal (bCmp .Eq (wName "i") (wName "n")) s4 true s4 := BVal.cmp (EVal.name I4.vi) (EVal.name I4.vn) (by show some _ = some _; rw [hjn]; simp)
          refine go_ift ht rfl (go_cons (go_add I4.add EVal.const I4.addO I4.obj (by rw [I4.nb]; exact I4.hk) (by simp; omega) (go_next (go_cons ?_))))
          have I5 := I4.more (sl ".*") rfl (by omega)
          refine go_add I5.add (EVal.name hf4) I5.addO I5.obj (by rw [I5.nb]; exact I5.hk) (by simp; omega) ?_
          have I6 := I5.more fs.flatten rfl (by simp; omega)
          repeat (first | with_reducible apply go_nil | with_reducible apply go_next)
          refine go_lnext (m := its.length - j) (by omega) ⟨j, (ps ++ [sl ".*"]) ++ [fs.flatten], I6, ?_, .inl hjn, ?_, rfl⟩
          · simp; omega
          · rw [← hBi, List.drop_eq_nil_of_le (by omega)]; simp [rowsR, mid, body]
        | some o =>
          cases o with
          | none =>
            have hjl : j < its.length := lt_of_get hj
            refine go_tf (go_next (go_cons (go_assign hjoin.1 (go_next (go_cons ?_)))))
            generalize s3.set "fixed" (.str fs.flatten) = s4 at I4 hf4 ⊢
            have ht : BVal (bCmp .Eq (wName "i") (wName "n")) s4 false s4 := BVal.cmp (EVal.name I4.vi) (EVal.name I4.vn) (by show some _ = some _; simp; omega)
            have l6 : (sl "(?>.*?").length = 6 := by decide +kernel
            have l1 : (sl ")").length = 1 := by decide +kernel
            refine go_iff ht rfl (go_cons (go_add I4.add (EVal.f3 (EVal.name hf4) (by have := hjoin.2; omega)) I4.addO I4.obj (by rw [I4.nb]; exact I4.hk) (by simp; omega) ?_))
            have I5 := I4.more (sl "(?>.*?" ++ (fs.flatten ++ sl ")")) rfl (by omega)
            repeat (first | with_reducible apply go_nil | with_reducible apply go_next)
            refine go_lnext (m := its.length - j) (by omega) ⟨j, _, I5, ?_, .inr hj, ?_, rfl⟩
            · simp; omega
            · rw [drop_at hj] at hBi ⊢
              rw [body_none, ← hBi]
              simp [rowsR, mid]
          | some t =>
            have hjl : j < its.length := lt_of_get hj
            refine go_tt ?_
            unfold w_join_translated_parts_while2
            refine go_cons (go_append hf (I3.itm (by omega) hj) hmo (by rw [I3.nb]; have := I3.hk; omega) (by simp; omega) (go_next (go_cons ?_)))
            refine go_aug I3.vi EVal.const iop_addi (go_next (go_nil ?_))
            have I4 := (I3.upd (.list (fs.map .str ++ [.str t])) hm1 hm2).inc hjl
            refine go_lnext (m := its.length - (j + 1)) (by omega) ⟨m, j + 1, fs ++ [t], I4, by (first | with_reducible assumption | with_reducible exact St.get_same | (with_reducible apply St.get_int; omega) | ((with_reducible (repeat (first | (apply St.get_ne; decide) | apply St.get_push | apply St.get_upd))); (first | with_reducible assumption | with_reducible exact St.get_same | (with_reducible apply St.get_int; omega)))), hm1, hm2, (set_get hmo).trans (by simp [toV]), ?_, by omega, by simp; omega, rfl⟩
            rw [← hfs, drop_at hj]; simp
    · rw [decide_eq_false hlt]
      refine go_tf (go_next ?_)
      have : i = its.length := by have := I.ile; omega
      subst this
      refine fin s1 ps I ?_
      rw [← hBi, List.drop_length]; simp [rowsR, body, mid]
  -- the first row
  refine go_while (fun n s1 => ∃ i ps, JI st.sto r k s.sto.length (s.sto ++ [O.list []]).length its s1 i ps ∧ ps.length ≤ 2 * i ∧ ps.flatten ++ body (rowsR (its.drop i)) = B ∧ n = its.length - i) its.length
    ⟨0, [], I0 _ rfl rfl (by (first | with_reducible assumption | with_reducible exact St.get_same | (with_reducible apply St.get_int; omega) | ((with_reducible (repeat (first | (apply St.get_ne; decide) | apply St.get_push | apply St.get_upd))); (first | with_reducible assumption | with_reducible exact St.get_same | (with_reducible apply St.get_int; omega))))) (by (first | with_reducible assumption | with_reducible exact St.get_same | (with_reducible apply St.get_int; omega) | ((with_reducible (repeat (first | (apply St.get_ne; decide) | apply St.get_push | apply St.get_upd))); (first | with_reducible assumption | with_reducible exact St.get_same | (with_reducible apply St.get_int; omega))))) (by (first | with_reducible assumption | with_reducible exact St.get_same | (with_reducible apply St.get_int; omega) | ((with_reducible (repeat (first | (apply St.get_ne; decide) | apply St.get_push | apply St.get_upd))); (first | with_reducible assumption | with_reducible exact St.get_same | (with_reducible apply St.get_int; omega))))) (by (first | with_reducible assumption | with_reducible exact St.get_same | (with_reducible apply St.get_int; omega) | ((with_reducible (repeat (first | (apply St.get_ne; decide) | apply St.get_push | apply St.get_upd))); (first | with_reducible assumption | with_reducible exact St.get_same | (with_reducible apply St.get_int; omega))))) (by exact St.get_same) (by (first | with_reducible assumption | with_reducible exact St.get_same | (with_reducible apply St.get_int; omega) | ((with_reducible (repeat (first | (apply St.get_ne; decide) | apply St.get_push | apply St.get_upd))); (first | with_reducible assumption | with_reducible exact St.get_same | (with_reducible apply St.get_int; omega))))), by simp, by simpa using hB', by simp⟩ ?_
  rintro n s1 ⟨i, ps, I, hp, hBi, hn⟩
  refine go_b (I.test (by omega)) ?_
  cases hi : its[i]? with
  | none =>
    have hin : i = its.length := by have := I.ile; rw [List.getElem?_eq_none_iff] at hi; omega
    exact go_tf (go_next (second s1 i ps I hp (.inl hin) hBi))
  | some o =>
    cases o with
    | none => exact go_tf (go_next (second s1 i ps I hp (.inr hi) hBi))
    | some t =>
      have hil : i < its.length := lt_of_get hi
      refine go_tt ?_
      unfold w_join_translated_parts_while3
      refine go_cons (go_add I.add (I.itm (by omega) hi) I.addO I.obj (by rw [I.nb]; exact I.hk) (by simp; omega) (go_next (go_cons ?_)))
      have I2 := I.more t rfl (by omega)
      refine go_aug (X := .int (i : Nat)) I2.vi EVal.const iop_addi (go_next (go_nil ?_))
      refine go_lnext (m := its.length - (i + 1)) (by omega) ⟨i + 1, ps ++ [t], I2.inc hil, by simp; omega, ?_, rfl⟩
      rw [← hBi, drop_at hi, body_some]; simp
structure TI (base : List O) (x : T) (k : Nat) (qm : T) (k0 ka : Nat) (s : St) (i : Nat) (its : List (Option T)) : Prop where
  nb : s.nb = base.length
  pre : Pre base s.sto
  hk : base.length ≤ k0
  hka : k0 < ka
  pat : s.loc "pat" = some (.str x)
  star : s.loc "STAR" = some (.ref k)
  qmk : s.loc "QUESTION_MARK" = some (.str qm)
  add : s.loc "add" = some (.ref ka)
  addO : s.sto[ka]? = some (.app k0)
  vn : s.loc "n" = some (.int (x.length : Nat))
  vi : s.loc "i" = some (.int (i : Nat))
  res : s.loc "res" = some (.ref k0)
  obj : s.sto[k0]? = some (.list (its.map (toV k)))
section
variable {base : List O} {x qm : T} {k k0 ka : Nat} {s : St} {i j : Nat} {its : List (Option T)} {Q : Fl → St → Prop}
theorem TI.set (I : TI base x k qm k0 ka s i its) {y : String} (X : V) (h : y ∉ ["pat", "STAR", "QUESTION_MARK", "add", "n", "i", "res"]) : TI base x k qm k0 ka (s.set y X) i its := by
  simp only [List.mem_cons, List.not_mem_nil, or_false, not_or] at h
  obtain ⟨h1, h2, h3, h4, h5, h6, h7⟩ := h
  exact ⟨I.nb, I.pre, I.hk, I.hka, St.get_ne (Ne.symm h1) I.pat, St.get_ne (Ne.symm h2) I.star, St.get_ne (Ne.symm h3) I.qmk, St.get_ne (Ne.symm h4) I.add, I.addO, St.get_ne (Ne.symm h5) I.vn, St.get_ne (Ne.symm h6) I.vi, St.get_ne (Ne.symm h7) I.res, I.obj⟩
theorem TI.setI (I : TI base x k qm k0 ka s i its) {v : Int} (h : v = (j : Nat)) : TI base x k qm k0 ka (s.set "i" (.int v)) j its :=
  ⟨I.nb, I.pre, I.hk, I.hka, St.get_ne (by decide) I.pat, St.get_ne (by decide) I.star, St.get_ne (by decide) I.qmk, St.get_ne (by decide) I.add, I.addO, St.get_ne (by decide) I.vn, St.get_int h, St.get_ne (by decide) I.res, I.obj⟩
theorem TI.push (I : TI base x k qm k0 ka s i its) (o : O) : TI base x k qm k0 ka (s.push o) i its :=
  ⟨I.nb, I.pre.push _, I.hk, I.hka, I.pat, I.star, I.qmk, I.add, push_get I.addO, I.vn, I.vi, I.res, push_get I.obj⟩
theorem TI.upd (I : TI base x k qm k0 ka s i its) {m : Nat} (o : O) (h1 : k0 < m) (h2 : ka < m) : TI base x k qm k0 ka (s.upd m o) i its :=
  ⟨I.nb, I.pre.set _ (by have := I.hk; omega), I.hk, I.hka, I.pat, I.star, I.qmk, I.add, set_get_ne (by omega) I.addO, I.vn, I.vi, I.res, set_get_ne (by omega) I.obj⟩
theorem TI.more (I : TI base x k qm k0 ka s i its) (o : Option T) : TI base x k qm k0 ka (s.upd k0 (.list (its.map (toV k) ++ [toV k o]))) i (its ++ [o]) :=
  ⟨I.nb, I.pre.set _ I.hk, I.hk, I.hka, I.pat, I.star, I.qmk, I.add, set_get_ne (by have := I.hka; omega) I.addO, I.vn, I.vi, I.res, (set_get I.obj).trans (by simp)⟩
theorem TI.goAdd (I : TI base x k qm k0 ka s i its) {a : EW} {o : Option T} (hl : its.length ≤ 1000) (ha : EVal a s (toV k o) s) (h : ∀ s', TI base x k qm k0 ka s' i (its ++ [o]) → s'.loc = s.loc → Q .next s') : sExpr (wAdd "add" (lCons a lNil)) s Q :=
  go_add I.add ha I.addO I.obj (by rw [I.nb]; exact I.hk) (by simp; omega) (h _ (I.more o) rfl)

theorem lt_nat {s : St} {y z : String} {a b : Nat} (h1 : s.loc y = some (.int (a : Nat))) (h2 : s.loc z = some (.int (b : Nat))) : BVal (bCmp .Lt (wName y) (wName z)) s (decide (a < b)) s := by
  have := BVal.cmp (op := .Lt) (EVal.name h1) (EVal.name h2) rfl
  have e : decide ((a : Int) < (b : Int)) = decide (a < b) := by
    by_cases h : a < b
    · rw [decide_eq_true h, decide_eq_true (by omega)]
    · rw [decide_eq_false h, decide_eq_false (by omega)]
  rw [e] at this; exact this
theorem test_at {q : String} {c : Nat} (e : sl q = [c]) (hx : x.length ≤ 1000) (hp : s.loc "pat" = some (.str x)) (hn : s.loc "n" = some (.int (x.length : Nat))) (hj : s.loc "j" = some (.int (j : Nat))) :
    BVal (bAnd (bCmp .Lt (wName "j") (wName "n")) (bCmp .Eq (wItem (wName "pat") (wName "j")) (wC (.str (sl q))))) s (decide (x[j]? = some c)) s := by
  by_cases hlt : j < x.length
  · obtain ⟨d, hd⟩ : ∃ d, x[j]? = some d := ⟨_, List.getElem?_eq_getElem hlt⟩
    have := BVal.and' (lt_nat hj hn) (fun _ => BVal.cmp (op := .Eq) (EVal.item (EVal.name hp) (EVal.name hj) (itm_str rfl hd (by omega))) (EVal.const (X := .str (sl q))) rfl)
    have e2 : (decide (j < x.length) && ([d] == sl q)) = decide (x[j]? = some c) := by
      rw [decide_eq_true hlt, hd, e]
      by_cases h : d = c <;> simp [h]
    rw [e2] at this; exact this
  · have := BVal.and' (u := bCmp .Eq (wItem (wName "pat") (wName "j")) (wC (.str (sl q)))) (r' := false) (lt_nat hj hn) (fun e => by simp at e; omega)
    have e2 : (decide (j < x.length) && false) = decide (x[j]? = some c) := by
      rw [List.getElem?_eq_none (by omega)]; simp
    rw [e2] at this; exact this
def isNe (c : Nat) : Option Nat → Bool
  | some d => !(d == c)
  | none => false
theorem test_ne {q : String} {c : Nat} (e : sl q = [c]) (hx : x.length ≤ 1000) (hp : s.loc "pat" = some (.str x)) (hn : s.loc "n" = some (.int (x.length : Nat))) (hj : s.loc "j" = some (.int (j : Nat))) :
    BVal (bAnd (bCmp .Lt (wName "j") (wName "n")) (bNe (wItem (wName "pat") (wName "j")) (wC (.str (sl q))))) s (isNe c x[j]?) s := by
  by_cases hlt : j < x.length
  · obtain ⟨d, hd⟩ : ∃ d, x[j]? = some d := ⟨_, List.getElem?_eq_getElem hlt⟩
    have := BVal.and' (lt_nat hj hn) (fun _ => BVal.ne (EVal.item (EVal.name hp) (EVal.name hj) (itm_str rfl hd (by omega))) (EVal.const (X := .str (sl q))))
    have e2 : (decide (j < x.length) && !([d] == sl q)) = isNe c x[j]? := by
      rw [decide_eq_true hlt, hd, e]
      by_cases h : d = c <;> simp [isNe, h]
    rw [e2] at this; exact this
  · have := BVal.and' (u := bNe (wItem (wName "pat") (wName "j")) (wC (.str (sl q)))) (r' := false) (lt_nat hj hn) (fun e => by simp at e; omega)
    have e2 : (decide (j < x.length) && false) = isNe c x[j]? := by
      rw [List.getElem?_eq_none (by omega)]; simp [isNe]
    rw [e2] at this; exact this
theorem tr_scan {rest : SW} (hx : x.length ≤ 1000) (I : TI base x k qm k0 ka s i its) (hi : i ≤ x.length)
    (h : ∀ s' (j : Nat), TI base x k qm k0 ka s' i its → s'.loc "j" = some (.int (j : Nat)) → j ≤ x.length → (fnd x 93 (fst33 x i + 1) x.length = none ∧ j = x.length ∨ fnd x 93 (fst33 x i + 1) x.length = some j) → rest s' Q) :
    (sCons (sAssign "j" (wName "i")) (sCons (sIf (bAnd (bCmp .Lt (wName "j") (wName "n")) (bCmp .Eq (wItem (wName "pat") (wName "j")) (wC (.str (sl "!"))))) (sCons (sAssign "j" (wBin .Add (wName "j") (wC (.int 1)))) sNil) sNil) (sCons (sIf (bAnd (bCmp .Lt (wName "j") (wName "n")) (bCmp .Eq (wItem (wName "pat") (wName "j")) (wC (.str (sl "]"))))) (sCons (sAssign "j" (wBin .Add (wName "j") (wC (.int 1)))) sNil) sNil) (sCons (sWhile (bAnd (bCmp .Lt (wName "j") (wName "n")) (bNe (wItem (wName "pat") (wName "j")) (wC (.str (sl "]"))))) w_translate_while4) rest)))) s Q := by
  have e33 : sl "!" = [33] := by decide +kernel
  have e93 : sl "]" = [93] := by decide +kernel
  refine go_cons (go_assign (EVal.name I.vi) (go_next (go_cons ?_)))
  have I1 := I.set (y := "j") (.int (i : Nat)) (by decide)
  have hF := fst33_le x i
  -- the while
  have loop : ∀ (s1 : St) (j1 : Nat), TI base x k qm k0 ka s1 i its → s1.loc "j" = some (.int (j1 : Nat)) → j1 ≤ x.length → fst33 x i ≤ j1 → (j1 = fst33 x i → x[j1]? ≠ some 93) → (∀ m, fst33 x i + 1 ≤ m → m < j1 → x[m]? ≠ some 93) →
      (sCons (sWhile (bAnd (bCmp .Lt (wName "j") (wName "n")) (bNe (wItem (wName "pat") (wName "j")) (wC (.str (sl "]"))))) w_translate_while4) rest) s1 Q := by
    intro s1 j1 J g1 g2 g3 g4 g5
    refine go_cons (go_while (fun n s2 => ∃ j : Nat, TI base x k qm k0 ka s2 i its ∧ s2.loc "j" = some (.int (j : Nat)) ∧ j ≤ x.length ∧ fst33 x i ≤ j ∧ (j = fst33 x i → x[j]? ≠ some 93) ∧ (∀ m, fst33 x i + 1 ≤ m → m < j → x[m]? ≠ some 93) ∧ n = x.length - j) _ ⟨j1, J, g1, g2, g3, g4, g5, rfl⟩ ?_)
    clear g1 g2 g3 g4 g5 J
    rintro n s2 ⟨j, J, g1, g2, g3, g4, g5, g6⟩
    refine go_b (test_ne e93 hx J.pat J.vn g1) ?_
    cases hj : x[j]? with
    | none =>
      have hjn : j = x.length := by rw [List.getElem?_eq_none_iff] at hj; omega
      refine go_tf (go_next (h s2 j J g1 g2 (.inl ⟨?_, hjn⟩)))
      cases hf : fnd x 93 (fst33 x i + 1) x.length with
      | none => rfl
      | some m =>
        obtain ⟨f1, f2, f3, _⟩ := fnd_some hf
        exact absurd f3 (g5 m f1 (by omega))
    | some d =>
      have hjl : j < x.length := lt_of_get hj
      by_cases hd : d = 93
      · subst hd
        refine go_tf (go_next (h s2 j J g1 g2 (.inr ?_)))
        have hne : j ≠ fst33 x i := fun e => g4 e hj
        cases hf : fnd x 93 (fst33 x i + 1) x.length with
        | none => exact absurd hj (fnd_none hf j (by omega) hjl)
        | some m =>
          obtain ⟨f1, f2, f3, f4⟩ := fnd_some hf
          have q1 : ¬ m < j := fun q => g5 m f1 q f3
          have q2 : ¬ j < m := fun q => f4 j (by omega) q hj
          congr 1; omega
      · have : isNe 93 (some d) = true := by simp [isNe, hd]
        rw [this]
        refine go_tt ?_
        unfold w_translate_while4
        refine go_cons (go_assign (EVal.bin (EVal.name g1) EVal.const bop_addi) (go_next (go_nil ?_)))
        refine go_lnext (m := x.length - (j + 1)) (by omega) ⟨j + 1, J.set _ (by decide), St.get_int (by omega), by omega, by omega, fun q => by omega, fun m h1 h2 => ?_, rfl⟩
        by_cases q : m = j
        · rw [q, hj]; simpa using hd
        · exact g5 m h1 (by omega)
  -- the second if
  have two : ∀ (s1 : St), TI base x k qm k0 ka s1 i its → s1.loc "j" = some (.int (fst33 x i : Nat)) → fst33 x i ≤ x.length →
      (sCons (sIf (bAnd (bCmp .Lt (wName "j") (wName "n")) (bCmp .Eq (wItem (wName "pat") (wName "j")) (wC (.str (sl "]"))))) (sCons (sAssign "j" (wBin .Add (wName "j") (wC (.int 1)))) sNil) sNil) (sCons (sWhile (bAnd (bCmp .Lt (wName "j") (wName "n")) (bNe (wItem (wName "pat") (wName "j")) (wC (.str (sl "]"))))) w_translate_while4) rest)) s1 Q := by
    intro s1 J g1 g2
    refine go_cons ?_
    by_cases q : x[fst33 x i]? = some 93
    · have := lt_of_get q
      refine go_ift (test_at e93 hx J.pat J.vn g1) (decide_eq_true q) (go_cons (go_assign (EVal.bin (EVal.name g1) EVal.const bop_addi) (go_next (go_nil (go_next ?_)))))
      exact loop _ (fst33 x i + 1) (J.set _ (by decide)) (St.get_int (by omega)) (by omega) (by omega) (fun e => by omega) (fun m h1 h2 => by omega)
    · refine go_iff (test_at e93 hx J.pat J.vn g1) (decide_eq_false q) (go_nil (go_next ?_))
      exact loop s1 (fst33 x i) J g1 g2 (Nat.le_refl _) (fun _ => q) (fun m h1 h2 => by omega)
  have hj1 : (s.set "j" (.int (i : Nat))).loc "j" = some (.int (i : Nat)) := St.get_same
  by_cases q : x[i]? = some 33
  · have hil := lt_of_get q
    have eF : fst33 x i = i + 1 := if_pos q
    refine go_ift (test_at e33 hx I1.pat I1.vn hj1) (decide_eq_true q) (go_cons (go_assign (EVal.bin (EVal.name hj1) EVal.const bop_addi) (go_next (go_nil (go_next ?_)))))
    exact two _ (I1.set _ (by decide)) (St.get_int (by rw [eF]; omega)) (by omega)
  · have eF : fst33 x i = i := if_neg q
    refine go_iff (test_at e33 hx I1.pat I1.vn hj1) (decide_eq_false q) (go_nil (go_next ?_))
    exact two _ I1 (by rw [eF]; exact hj1) (by omega)
end
structure KI (base : List O) (x : T) (k : Nat) (qm : T) (k0 ka : Nat) (its : List (Option T)) (j m : Nat) (s : St) (i : Nat) (cs : List T) : Prop where
  ti : TI base x k qm k0 ka s i its
  vj : s.loc "j" = some (.int (j : Nat))
  ch : s.loc "chunks" = some (.ref m)
  hm1 : k0 < m
  hm2 : ka < m
  obj : s.sto[m]? = some (.list (cs.map .str))
section
variable {base : List O} {x qm : T} {k k0 ka j m : Nat} {s : St} {i : Nat} {its : List (Option T)} {cs : List T} {Q : Fl → St → Prop}
theorem KI.set (I : KI base x k qm k0 ka its j m s i cs) {y : String} (X : V) (h : y ∉ ["pat", "STAR", "QUESTION_MARK", "add", "n", "i", "res"]) (h1 : y ≠ "j") (h2 : y ≠ "chunks") : KI base x k qm k0 ka its j m (s.set y X) i cs :=
  ⟨I.ti.set X h, St.get_ne (Ne.symm h1) I.vj, St.get_ne (Ne.symm h2) I.ch, I.hm1, I.hm2, I.obj⟩
theorem KI.setI (I : KI base x k qm k0 ka its j m s i cs) {i' : Nat} {v : Int} (h : v = (i' : Nat)) : KI base x k qm k0 ka its j m (s.set "i" (.int v)) i' cs :=
  ⟨I.ti.setI h, St.get_ne (by decide) I.vj, St.get_ne (by decide) I.ch, I.hm1, I.hm2, I.obj⟩
theorem KI.put (I : KI base x k qm k0 ka its j m s i cs) {cs' : List T} {xs : List V} (h : xs = cs'.map .str) : KI base x k qm k0 ka its j m (s.upd m (.list xs)) i cs' :=
  ⟨I.ti.upd _ I.hm1 I.hm2, I.vj, I.ch, I.hm1, I.hm2, (set_get I.obj).trans (by rw [h])⟩
theorem KI.own (I : KI base x k qm k0 ka its j m s i cs) : s.nb ≤ m := by rw [I.ti.nb]; have := I.ti.hk; have := I.hm1; omega
theorem slice_nat {y : String} {s : St} {a b : String} {p q : Nat} (hy : s.loc y = some (.str x)) (ha : s.loc a = some (.int (p : Nat))) (hb : s.loc b = some (.int (q : Nat))) (hx : x.length ≤ 1000) :
    EVal (wSlice (wName y) (pSome (wName a)) (pSome (wName b))) s (.str (seg x p q)) s := by
  have := EVal.slice_str (x := x) (EVal.name hy) (PVal.so (EVal.name ha)) (PVal.so (EVal.name hb)) (by omega)
  rw [psl_nn] at this; exact this
def Rl (x : T) (j : Nat) (CH cs : List T) (i kk : Nat) : Prop :=
  (i < kk ∧ kk ≤ j ∧ cs ++ ch (seg x i kk) (seg x kk j) = CH) ∨ (kk = i + 2 ∧ i + 1 = j ∧ cs ++ [seg x i j] = CH) ∨ (kk = i + 2 ∧ i = j ∧ ∃ cs0 c0, cs = cs0 ++ [c0] ∧ cs0 ++ [c0 ++ [45]] = CH)
def Re (x : T) (j : Nat) (CH cs : List T) (i : Nat) : Prop := (i < j ∧ cs ++ [seg x i j] = CH) ∨ (i = j ∧ ∃ cs0 c0, cs = cs0 ++ [c0] ∧ cs0 ++ [c0 ++ [45]] = CH)
theorem rl_none {CH : List T} {kk : Nat} (h : Rl x j CH cs i kk) (hf : fnd x 45 kk j = none) : Re x j CH cs i := by
  rcases h with ⟨h1, h2, h3⟩ | ⟨_, h2, h3⟩ | ⟨_, h2, h3⟩
  · refine .inl ⟨by omega, ?_⟩
    rw [← h3, ch_free _ _ (seg_no (fnd_none hf)), ← seg_split x (by omega) h2]
  · exact .inl ⟨by omega, h3⟩
  · exact .inr ⟨h2, h3⟩
theorem rl_some {CH : List T} {kk n : Nat} (hj : j ≤ x.length) (h : Rl x j CH cs i kk) (hf : fnd x 45 kk j = some n) : Rl x j CH (cs ++ [seg x i n]) (n + 1) (n + 3) ∧ i < n ∧ kk ≤ n ∧ n < j := by
  obtain ⟨f1, f2, f3, f4⟩ := fnd_some hf
  rcases h with ⟨h1, h2, h3⟩ | ⟨h1, h2, _⟩ | ⟨h1, h2, _⟩
  · refine ⟨?_, by omega, f1, f2⟩
    have e : cs ++ ch (seg x i n) (45 :: seg x (n + 1) j) = CH := by
      rw [← h3, seg_split x (a := kk) (b := n) f1 (by omega), ch_skip _ _ _ (seg_no f4), ← seg_split x (by omega) f1, seg_cons f3 f2]
    by_cases q1 : n + 1 = j
    · rw [seg_nil (x := x) (a := n + 1) (b := j) (by omega)] at e
      refine .inr (.inr ⟨rfl, q1, cs, seg x i n, rfl, ?_⟩)
      rw [← e]; simp [ch]
    · obtain ⟨b, hb⟩ : ∃ b, x[n + 1]? = some b := ⟨_, List.getElem?_eq_getElem (by omega)⟩
      by_cases q2 : n + 2 = j
      · refine .inr (.inl ⟨rfl, by omega, ?_⟩)
        rw [← e, seg_cons hb (by omega), seg_nil (x := x) (a := n + 1 + 1) (b := j) (by omega)]
        have : ch (seg x i n) [45, b] = [seg x i n, [b]] := by rw [ch]
        rw [this]; simp
      · obtain ⟨c, hc⟩ : ∃ c, x[n + 2]? = some c := ⟨_, List.getElem?_eq_getElem (by omega)⟩
        refine .inl ⟨by omega, by omega, ?_⟩
        rw [← e]
        have e2 : seg x (n + 1) (n + 3) = [b, c] := by rw [seg_cons hb (by omega), seg_cons hc (by omega), seg_nil (by omega)]
        have e3 : seg x (n + 1) j = b :: c :: seg x (n + 3) j := by rw [seg_cons hb (by omega), seg_cons hc (by omega)]
        rw [e2, e3]
        have : ch (seg x i n) (45 :: b :: c :: seg x (n + 3) j) = seg x i n :: ch [b, c] (seg x (n + 3) j) := by rw [ch]
        rw [this]; simp
  · omega
  · omega
theorem tr_chunks {rest : SW} {CH : List T} (hx : x.length ≤ 1000) (hj : j ≤ x.length) {kk : Nat} (K : KI base x k qm k0 ka its j m s i []) (hk : s.loc "k" = some (.int (kk : Nat))) (hR : Rl x j CH [] i kk)
    (h : ∀ s' i cs, KI base x k qm k0 ka its j m s' i cs → cs.length ≤ 1000 → Re x j CH cs i → rest s' Q) : sCons (sWhile (bVal (wC (.bool true))) w_translate_while3) rest s Q := by
  have e45 : sl "-" = [45] := by decide +kernel
  refine go_cons (go_while (fun n s2 => ∃ i cs kk, KI base x k qm k0 ka its j m s2 i cs ∧ s2.loc "k" = some (.int (kk : Nat)) ∧ Rl x j CH cs i kk ∧ cs.length ≤ i ∧ n = j + 3 - kk) _ ⟨i, [], kk, K, hk, hR, by simp, rfl⟩ ?_)
  clear K hk hR
  rintro n s2 ⟨i, cs, kk, K, hk, hR, hl, hn⟩
  have hij : i ≤ j ∧ kk ≤ j + 2 := by
    rcases hR with h | h | h <;> omega
  refine go_b (BVal.val EVal.const rfl) (go_tt ?_)
  unfold w_translate_while3
  have hfind : EVal (wMethS (wName "pat") (lCons (wC (.str (sl "-"))) (lCons (wName "k") (lCons (wName "j") lNil))) cFind) s2 (.int (fndI (fnd x 45 kk j))) s2 := by
    refine EVal.methS (EVal.name K.ti.pat) (LVal.cons EVal.const (LVal.cons (EVal.name hk) (LVal.cons (EVal.name K.vj) LVal.nil))) ?_
    rw [e45]
    exact CVal.find4 (by omega) (by omega) (by omega) fun r' hr => findAt_fnd hr
  refine go_cons (go_assign hfind (go_next (go_cons ?_)))
  have K1 := K.set (y := "k") (.int (fndI (fnd x 45 kk j))) (by decide) (by decide) (by decide)
  have hlt : BVal (bCmp .Lt (wName "k") (wC (.int 0))) (s2.set "k" (.int (fndI (fnd x 45 kk j)))) (decide (fndI (fnd x 45 kk j) < 0)) (s2.set "k" (.int (fndI (fnd x 45 kk j)))) :=
    BVal.cmp (EVal.name St.get_same) EVal.const rfl
  cases hf : fnd x 45 kk j with
  | none =>
    rw [hf] at hlt K1
    refine go_ift hlt rfl (go_cons (go_fl (go_kbrk (go_kbrk (go_lbrk (go_next ?_))))))
    exact h _ i cs K1 (by omega) (rl_none hR hf)
  | some n' =>
    rw [hf] at hlt K1
    rw [show fndI (some n') = (n' : Int) from rfl] at hlt K1 ⊢
    obtain ⟨hR', h1, h2, h3⟩ := rl_some hj hR hf
    refine go_iff hlt (decide_eq_false (by omega)) (go_nil (go_next (go_cons ?_)))
    have hkv : (s2.set "k" (.int (n' : Nat))).loc "k" = some (.int (n' : Nat)) := St.get_same
    refine go_append K1.ch (slice_nat K1.ti.pat K1.ti.vi hkv hx) K1.obj K1.own (by simp; omega) (go_next (go_cons ?_))
    have K2 := K1.put (cs' := cs ++ [seg x i n']) (xs := cs.map .str ++ [.str (seg x i n')]) (by simp)
    refine go_assign (EVal.bin (EVal.name (X := .int (n' : Nat)) (by exact hkv)) EVal.const bop_addi) (go_next (go_cons ?_))
    have K3 := K2.setI (i' := n' + 1) (v := (n' : Int) + 1) (by omega)
    refine go_assign (EVal.bin (EVal.name (X := .int (n' : Nat)) (by exact St.get_ne (by decide) hkv)) EVal.const bop_addi) (go_next (go_nil ?_))
    refine go_lnext (m := j + 3 - (n' + 3)) (by omega) ⟨n' + 1, cs ++ [seg x i n'], n' + 3, K3.set _ (by decide) (by decide) (by decide), St.get_int (by omega), hR', by simp; omega, rfl⟩
end
theorem psl_init {α : Type} (x : List α) (h : x ≠ []) : psl none (some (-1)) x = x.dropLast := by
  have hl : 1 ≤ x.length := by
    cases x with
    | nil => exact absurd rfl h
    | cons a r => simp
  unfold psl
  have e2 : clipHi (some (-1)) x.length = x.length - 1 := by
    unfold clipHi; simp only; rw [if_pos (by omega)]; omega
  rw [e2, List.dropLast_eq_take]
  show (x.drop 0).take (x.length - 1 - 0) = _
  simp
theorem itm_strlast {st : St} {x : T} (h : x ≠ []) (hl : x.length ≤ 1000000) : itm st (.str x) (-1) = some (.str [lastD x]) := by
  unfold itm
  simp only [if_pos (show x.length ≤ 16777216 by omega)]
  obtain ⟨n, hn⟩ : ∃ n, x.length = n + 1 := by
    cases x with
    | nil => exact absurd rfl h
    | cons a r => exact ⟨r.length, rfl⟩
  rw [hn, pix_last]
  have : x[n]? = some (lastD x) := by
    unfold lastD
    rw [List.getLast?_eq_getElem?, hn]
    have hlt : n < x.length := by omega
    rw [show n + 1 - 1 = n by omega, List.getElem?_eq_getElem hlt]; rfl
  simp [this]
theorem downs_succ (n : Nat) : downs (n + 1) = .int ((n + 1 : Nat) : Int) :: downs n := by
  unfold downs
  rw [List.range_succ_eq_map, List.map_cons, List.map_map]
  congr 1
  refine List.map_congr_left fun i _ => ?_
  simp only [Function.comp_apply]
  congr 1
  omega
theorem set_mid {α : Type} (A : List α) (c v : α) (r : List α) : (A ++ c :: r).set A.length v = A ++ v :: r := by
  rw [List.set_append_right _ _ (Nat.le_refl _)]; simp
theorem erase_mid {α : Type} (A : List α) (v w : α) (r : List α) : (A ++ v :: w :: r).eraseIdx (A.length + 1) = A ++ v :: r := by
  rw [List.eraseIdx_append_of_length_le (by omega)]; simp
section
variable {base : List O} {x qm : T} {k k0 ka j m : Nat} {s : St} {i : Nat} {its : List (Option T)} {cs : List T} {Q : Fl → St → Prop}
theorem tr_merge {CH : List T} (hne : ∀ t ∈ CH, t ≠ []) (hg : ∃ t0 rest, CH = t0 :: rest ∧ Good2 rest) (hsz : CH.length ≤ 1000 ∧ ∀ t ∈ CH, t.length ≤ 1000) (hmz : ∀ n, ∀ t ∈ mg (CH.drop n), t.length ≤ 1000) (h : ∀ s', KI base x k qm k0 ka its j m s' i (mg CH) → Q .next s') :
    ∀ (n : Nat) (s : St), n < CH.length → KI base x k qm k0 ka its j m s i (CH.take n ++ mg (CH.drop n)) → forW (fun _ => True) "k" w_translate_for2 (downs n) s Q
  | 0, s, _, K => go_forNil trivial (h s (by simpa using K))
  | n + 1, s, hn, K => by
    rw [downs_succ]
    refine go_forCons trivial ?_
    obtain ⟨c, hc⟩ : ∃ c, CH[n]? = some c := ⟨_, List.getElem?_eq_getElem (by omega)⟩
    have hcm : c ∈ CH := List.mem_of_getElem? hc
    have hd := drop_at hc
    have hm1 : mg (CH.drop n) = mg1 c (mg (CH.drop (n + 1))) := by rw [hd, mg]
    have htk : CH.take (n + 1) = CH.take n ++ [c] := by rw [List.take_add_one, hc]; rfl
    obtain ⟨t0, rest, hCH, hgr⟩ := hg
    obtain ⟨a, d, ds, hmg⟩ := good_mg (CH.drop (n + 1)) (by intro q; have := congrArg List.length q; simp at this; omega) (by rw [hCH]; exact good_drop hgr n)
    have hdl : (a :: d).length ≤ 1000 := hmz (n + 1) _ (by rw [hmg]; simp)
    have hms := mg_size (CH.drop (n + 1))
    rw [hmg] at hms
    have hmsl := hms.2
    rw [List.length_drop, List.length_cons] at hmsl
    rw [hmg] at hm1
    have hm1' : mg1 c ((a :: d) :: ds) = if a < lastD c then (c.dropLast ++ d) :: ds else c :: (a :: d) :: ds := rfl
    rw [htk, hmg, List.append_assoc] at K
    have hA : (CH.take n).length = n := by simp; omega
    have hAm : ((CH.take n).map V.str).length = n := by simp; omega
    have K1 := K.set (y := "k") (.int ((n + 1 : Nat) : Int)) (by decide) (by decide) (by decide)
    have hk : (s.set "k" (.int ((n + 1 : Nat) : Int))).loc "k" = some (.int ((n + 1 : Nat) : Int)) := St.get_same
    generalize s.set "k" (.int ((n + 1 : Nat) : Int)) = s1 at K1 hk ⊢
    have hob : s1.sto[m]? = some (.list ((CH.take n).map .str ++ .str c :: .str (a :: d) :: ds.map .str)) := K1.obj.trans (by simp)
    have hlen : ((CH.take n).map V.str ++ .str c :: .str (a :: d) :: ds.map V.str).length ≤ 16777216 := by
      rw [List.length_append, hAm]; simp; omega
    have hcl := hsz.2 c hcm
    have i1 : EVal (wItem (wName "chunks") (wBin .Sub (wName "k") (wC (.int 1)))) s1 (.str c) s1 :=
      EVal.item (EVal.name K1.ch) (EVal.bin (EVal.name hk) EVal.const bop_subi) (itm_list (k := n) hob (by omega) (by rw [List.getElem?_append_right (by omega), hAm]; simp) hlen)
    have i2 : EVal (wItem (wName "chunks") (wName "k")) s1 (.str (a :: d)) s1 :=
      EVal.item (EVal.name K1.ch) (EVal.name hk) (itm_list (k := n + 1) hob rfl (by rw [List.getElem?_append_right (by omega), hAm, show n + 1 - n = 1 by omega]; simp) hlen)
    have ht : BVal (bCmp .Gt (wItem (wItem (wName "chunks") (wBin .Sub (wName "k") (wC (.int 1)))) (wC (.int (-1)))) (wItem (wItem (wName "chunks") (wName "k")) (wC (.int 0)))) s1 (decide (a < lastD c)) s1 :=
      BVal.cmp (EVal.item i1 EVal.const (itm_strlast (hne c hcm) (by omega))) (EVal.item i2 EVal.const (itm_str (k := 0) rfl rfl (by omega))) (str_gt1 _ _)
    unfold w_translate_for2
    refine go_cons ?_
    by_cases hlt : a < lastD c
    · refine go_ift ht (decide_eq_true hlt) (go_cons ?_)
      have v1 : EVal (wSlice (wItem (wName "chunks") (wBin .Sub (wName "k") (wC (.int 1)))) pNone (pSome (wC (.int (-1))))) s1 (.str c.dropLast) s1 := by
        have := EVal.slice_str i1 PVal.no (PVal.so (EVal.const (X := .int (-1)))) (by omega)
        rw [psl_init c (hne c hcm)] at this; exact this
      have v2 : EVal (wSlice (wItem (wName "chunks") (wName "k")) (pSome (wC (.int 1))) pNone) s1 (.str d) s1 := by
        have := EVal.slice_str i2 (PVal.so (EVal.const (X := .int 1))) PVal.no (by omega)
        have e := psl_ns (a :: d) 1
        have e' : psl (some (1 : Int)) none (a :: d) = d := e
        rw [e'] at this; exact this
      have hdl2 : c.dropLast.length + d.length ≤ 2000 := by simp at hdl ⊢; omega
      have hpx : pix ((((n + 1 : Nat) : Int)) - 1) ((CH.take n).map V.str ++ .str c :: .str (a :: d) :: ds.map V.str).length = some n := by
        have : (((n + 1 : Nat) : Int)) - 1 = (n : Int) := by omega
        rw [this]
        exact pix_nn (by rw [List.length_append, hAm]; simp)
      refine go_setItem (EVal.bin v1 v2 (bop_add (by omega))) (EVal.name K1.ch) (EVal.bin (EVal.name hk) EVal.const bop_subi) hob hlen K1.own hpx (go_next (go_cons ?_))
      have hset : ((CH.take n).map V.str ++ V.str c :: .str (a :: d) :: ds.map V.str).set n (.str (c.dropLast ++ d)) = (CH.take n ++ (c.dropLast ++ d) :: (a :: d) :: ds).map .str := by
        have := set_mid ((CH.take n).map V.str) (.str c) (.str (c.dropLast ++ d)) (.str (a :: d) :: ds.map V.str)
        rw [hAm] at this
        rw [this]; simp
      rw [hset]
      have K2 := K1.put (cs' := CH.take n ++ (c.dropLast ++ d) :: (a :: d) :: ds) rfl
      have hk2 : (s1.upd m (.list ((CH.take n ++ (c.dropLast ++ d) :: (a :: d) :: ds).map .str))).loc "k" = some (.int ((n + 1 : Nat) : Int)) := hk
      generalize s1.upd m (.list ((CH.take n ++ (c.dropLast ++ d) :: (a :: d) :: ds).map .str)) = s2 at K2 hk2 ⊢
      have hlen2 : ((CH.take n ++ (c.dropLast ++ d) :: (a :: d) :: ds).map V.str).length ≤ 16777216 := by
        rw [List.length_map, List.length_append, hA]; simp; omega
      refine go_del (EVal.name K2.ch) (EVal.name hk2) K2.obj hlen2 K2.own (pix_nn (by rw [List.length_map, List.length_append, hA]; simp)) ?_
      have hers : ((CH.take n ++ (c.dropLast ++ d) :: (a :: d) :: ds).map V.str).eraseIdx (n + 1) = (CH.take n ++ (c.dropLast ++ d) :: ds).map .str := by
        have := erase_mid ((CH.take n).map V.str) (.str (c.dropLast ++ d)) (.str (a :: d)) (ds.map V.str)
        rw [hAm] at this
        simpa using this
      rw [hers]
      have K3 := K2.put (cs' := CH.take n ++ (c.dropLast ++ d) :: ds) rfl
      repeat (first | with_reducible apply go_nil | with_reducible apply go_next)
      refine tr_merge hne ⟨t0, rest, hCH, hgr⟩ hsz hmz h n _ (by omega) ?_
      rw [hm1, hm1', if_pos hlt]; exact K3
    · refine go_iff ht (decide_eq_false hlt) ?_
      repeat (first | with_reducible apply go_nil | with_reducible apply go_next)
      refine tr_merge hne ⟨t0, rest, hCH, hgr⟩ hsz hmz h n _ (by omega) ?_
      rw [hm1, hm1', if_neg hlt]; exact K1
end
section
variable {base : List O} {x qm : T} {k k0 ka j m : Nat} {s : St} {i : Nat} {its : List (Option T)} {cs : List T} {Q : Fl → St → Prop}
theorem join_dashed {s : St} {ts : List T} (hc : s.loc "chunks" = some (.ref m)) (ho : s.sto[m]? = some (.list (ts.map .str))) (h1 : ts.length ≤ 1000) (h2 : lsum ts ≤ 1000) :
    EVal (fun st Q => (wC (.str (sl "-"))) st fun X st1 => ∃ x, X = .str x ∧ jGen "chunks" dashed (fun t => t.length ≤ 1000) x st1 Q) s (.str (joins (sl "-") (ts.map dashed))) s := fun Q q => by
  have e : (sl "-").length = 1 := by decide +kernel
  have h3 := dashed_sum ts
  refine ⟨sl "-", rfl, m, ts.map .str, ts, hc, ho, texts_strs ts, fun t ht => by have := lsum_mem ht; omega, by omega, by rw [e]; omega, q⟩
theorem tr_tail {rest : SW} {CH : List T} (hx : x.length ≤ 1000) (hj : j ≤ x.length) (hg : ∃ t0 rest, CH = t0 :: rest ∧ t0 ≠ [] ∧ Good2 rest) (hs1 : lsum CH ≤ 1000) (hs2 : CH.length ≤ 1000) (K : KI base x k qm k0 ka its j m s i cs) (hl : cs.length ≤ 1000) (hR : Re x j CH cs i)
    (h : ∀ s' i', TI base x k qm k0 ka s' i' its → s'.loc "j" = some (.int (j : Nat)) → s'.loc "stuff" = some (.str (joins (sl "-") ((mg CH).map dashed))) → rest s' Q) :
    (sCons (sAssign "chunk" (wSlice (wName "pat") (pSome (wName "i")) (pSome (wName "j")))) (sCons (sIf (bVal (wName "chunk")) (sCons (sExpr (wMethL (wName "chunks") (lCons (wName "chunk") lNil) cAppend)) sNil) (sCons (sAugItem (wName "chunks") (wC (.int (-1))) .Add (wC (.str (sl "-")))) sNil)) (sCons (sDown "k" (wBin .Sub (wCall (lCons (wName "chunks") lNil) cLen) (wC (.int 1))) w_translate_for2) (sCons (sAssign "stuff" (fun st Q => (wC (.str (sl "-"))) st fun X st1 => ∃ x, X = .str x ∧ jGen "chunks" dashed (fun t => t.length ≤ 1000) x st1 Q)) rest)))) s Q := by
  have e45 : sl "-" = [45] := by decide +kernel
  obtain ⟨t0, rs, hCH, ht0, hgr⟩ := hg
  have hne : ∀ t ∈ CH, t ≠ [] := fun t ht => by
    rw [hCH] at ht
    rcases List.mem_cons.mp ht with rfl | ht
    · exact ht0
    · exact hgr.1 t ht
  have hms := mg_size CH
  -- the chunks in hand
  have go : ∀ s1 : St, KI base x k qm k0 ka its j m s1 i CH → (sCons (sDown "k" (wBin .Sub (wCall (lCons (wName "chunks") lNil) cLen) (wC (.int 1))) w_translate_for2) (sCons (sAssign "stuff" (fun st Q => (wC (.str (sl "-"))) st fun X st1 => ∃ x, X = .str x ∧ jGen "chunks" dashed (fun t => t.length ≤ 1000) x st1 Q)) rest)) s1 Q := by
    intro s1 K
    have hlen : 1 ≤ CH.length := by rw [hCH]; simp
    have hlast : CH = CH.take (CH.length - 1) ++ mg (CH.drop (CH.length - 1)) := by
      have e : ∃ l, CH.drop (CH.length - 1) = [l] := by
        have : (CH.drop (CH.length - 1)).length = 1 := by simp; omega
        exact List.length_eq_one_iff.mp this
      obtain ⟨l, e⟩ := e
      rw [e]
      have : mg [l] = [l] := by simp [mg, mg1]
      rw [this, ← e, List.take_append_drop]
    have hn : EVal (wBin .Sub (wCall (lCons (wName "chunks") lNil) cLen) (wC (.int 1))) s1 (.int ((CH.length - 1 : Nat) : Int)) s1 := by
      have := EVal.bin (op := .Sub) (EVal.call (LVal.cons (EVal.name K.ch) LVal.nil) (CVal.len_list K.obj (by simp; omega))) (EVal.const (X := .int 1)) bop_subi
      rw [List.length_map] at this
      rw [show ((CH.length - 1 : Nat) : Int) = (CH.length : Int) - 1 by omega]; exact this
    refine go_cons (go_down hn (by omega) ?_)
    refine tr_merge hne ⟨t0, rs, hCH, hgr⟩ ⟨hs2, fun t ht => by have := lsum_mem ht; omega⟩ (fun n t ht => ?_) (fun s2 K2 => ?_) _ s1 (by omega) (by rw [← hlast]; exact K)
    · have h1 := lsum_mem ht
      have h2 := (mg_size (CH.drop n)).1
      have h3 : lsum (CH.drop n) ≤ lsum CH := by
        have : lsum (CH.take n ++ CH.drop n) = lsum (CH.take n) + lsum (CH.drop n) := by simp only [lsum, List.map_append, List.sum_append]
        rw [List.take_append_drop] at this; omega
      omega
    · refine go_next (go_cons (go_assign (join_dashed K2.ch K2.obj (by omega) (by omega)) (go_next ?_)))
      exact h _ i (K2.ti.set _ (by decide)) (St.get_ne (by decide) K2.vj) St.get_same
  refine go_cons (go_assign (slice_nat K.ti.pat K.ti.vi K.vj hx) (go_next (go_cons ?_)))
  have K1 := K.set (y := "chunk") (.str (seg x i j)) (by decide) (by decide) (by decide)
  have hch : (s.set "chunk" (.str (seg x i j))).loc "chunk" = some (.str (seg x i j)) := St.get_same
  generalize s.set "chunk" (.str (seg x i j)) = s1 at K1 hch ⊢
  have hsl := (seg_lens x i j).1
  have ht : BVal (bVal (wName "chunk")) s1 (decide (seg x i j ≠ [])) s1 := BVal.val (EVal.name hch) (tru_str (by omega))
  rcases hR with ⟨hij, e⟩ | ⟨hij, cs0, c0, e1, e2⟩
  · refine go_ift ht (decide_eq_true fun q => ?_) (go_cons (go_append K1.ch (EVal.name hch) K1.obj K1.own (by simp; omega) (go_next (go_nil (go_next ?_)))))
    · have := seg_len_eq (x := x) (a := i) hj
      rw [q] at this; simp at this; omega
    · exact go _ (K1.put (cs' := CH) (by rw [← e]; simp))
  · have hnil : seg x i j = [] := seg_nil (by omega)
    refine go_iff ht (by rw [hnil]; rfl) (go_cons ?_)
    have hob : s1.sto[m]? = some (.list (cs0.map .str ++ [.str c0])) := K1.obj.trans (by rw [e1]; simp)
    have hc0 : (c0 ++ [45]).length ≤ 1000 := by
      have := lsum_mem (ts := CH) (t := c0 ++ [45]) (by rw [← e2]; simp)
      omega
    have hcl : cs0.length + 1 ≤ 1000 := by have := congrArg List.length e1; simp at this; omega
    refine go_augItem (EVal.name K1.ch) EVal.const (itm_last hob (by simp; omega)) EVal.const (iop_add (x := c0) (y := sl "-") (by rw [e45]; simp at hc0 ⊢; omega)) hob (by simp; omega) K1.own (by rw [List.length_append, List.length_map]; exact pix_last) ?_
    refine go_next (go_nil (go_next (go _ (K1.put (cs' := CH) ?_))))
    rw [← e2, e45]
    have := set_mid (cs0.map V.str) (.str c0) (.str (c0 ++ [45])) []
    rw [List.length_map] at this
    simpa using this
theorem tr_finish {Y : T} (I : TI base x k qm k0 ka s i its) (hj : s.loc "j" = some (.int (j : Nat))) (hY : s.loc "stuff" = some (.str Y)) (hl : Y.length ≤ 10000) (hi : its.length ≤ 1000)
    (h : ∀ s', TI base x k qm k0 ka s' (j + 1) (its ++ [some (trFin (escT Y))]) → Q .next s') :
    (sCons (sAssign "stuff" (wSub "stuff")) (sCons (sAssign "i" (wBin .Add (wName "j") (wC (.int 1)))) (sCons (sIf (bNot (bVal (wName "stuff"))) (sCons (sExpr (wAdd "add" (lCons (wC (.str (sl "(?!)"))) lNil))) sNil) (sCons (sIf (bCmp .Eq (wName "stuff") (wC (.str (sl "!")))) (sCons (sExpr (wAdd "add" (lCons (wC (.str (sl "."))) lNil))) sNil) (sCons (sIf (bCmp .Eq (wItem (wName "stuff") (wC (.int 0))) (wC (.str (sl "!")))) (sCons (sAssign "stuff" (wBin .Add (wC (.str (sl "^"))) (wSlice (wName "stuff") (pSome (wC (.int 1))) pNone))) sNil) (sCons (sIf (bInTwo (wItem (wName "stuff") (wC (.int 0))) "^" "[") (sCons (sAssign "stuff" (wBin .Add (wC (.str (sl "\\"))) (wName "stuff"))) sNil) sNil) sNil)) (sCons (sExpr (wAdd "add" (lCons (wF3 "[" (wName "stuff") "]") lNil))) sNil))) sNil)) sNil))) s Q := by
  have hel := esc_len Y
  refine go_cons (go_assign (EVal.sub hY (by omega)) (go_next (go_cons ?_)))
  generalize hS : escT Y = S at hel h ⊢
  have hj1 : (s.set "stuff" (.str S)).loc "j" = some (.int (j : Nat)) := St.get_ne (by decide) hj
  refine go_assign (EVal.bin (EVal.name hj1) EVal.const bop_addi) (go_next (go_cons ?_))
  have I1 := (I.set (y := "stuff") (.str S) (by decide)).setI (j := j + 1) (v := (j : Int) + 1) (by omega)
  have hs1 : ((s.set "stuff" (.str S)).set "i" (.int ((j : Int) + 1))).loc "stuff" = some (.str S) := St.get_ne (by decide) St.get_same
  generalize (s.set "stuff" (.str S)).set "i" (.int ((j : Int) + 1)) = s1 at I1 hs1 ⊢
  clear hj1 hY hj I
  have e33 : sl "!" = [33] := by decide +kernel
  have e94 : sl "^" = [94] := by decide +kernel
  have e91 : sl "[" = [91] := by decide +kernel
  have e92 : sl "\\" = [92] := by decide +kernel
  have hn : BVal (bNot (bVal (wName "stuff"))) s1 (!decide (S ≠ [])) s1 := BVal.not (BVal.val (EVal.name hs1) (tru_str (by omega)))
  by_cases c0 : S = []
  · refine go_ift hn (by simp [c0]) (go_cons (I1.goAdd (o := some (sl "(?!)")) hi EVal.const fun s2 I2 _ => ?_))
    repeat (first | with_reducible apply go_nil | with_reducible apply go_next)
    refine h s2 ?_
    have : trFin S = sl "(?!)" := if_pos c0
    rw [this]; exact I2
  · refine go_iff hn (by simp [c0]) (go_cons ?_)
    have ht : BVal (bCmp .Eq (wName "stuff") (wC (.str (sl "!")))) s1 (S == sl "!") s1 := BVal.cmp (EVal.name hs1) EVal.const rfl
    by_cases c1 : S = [33]
    · refine go_ift ht (by rw [c1, e33]; rfl) (go_cons (I1.goAdd (o := some (sl ".")) hi EVal.const fun s2 I2 _ => ?_))
      repeat (first | with_reducible apply go_nil | with_reducible apply go_next)
      refine h s2 ?_
      have : trFin S = sl "." := by unfold trFin; rw [if_neg c0, if_pos c1]
      rw [this]; exact I2
    · refine go_iff ht (by rw [e33]; simpa using c1) (go_cons ?_)
      have hfin : trFin S = sl "[" ++ (trHead S ++ sl "]") := by unfold trFin; rw [if_neg c0, if_neg c1]
      have last : ∀ (s2 : St) (z : T), TI base x k qm k0 ka s2 (j + 1) its → s2.loc "stuff" = some (.str z) → z.length ≤ 30000 → trHead S = z → (sCons (sExpr (wAdd "add" (lCons (wF3 "[" (wName "stuff") "]") lNil))) sNil) s2 (kSeq sNil (kSeq sNil Q)) := by
        intro s2 z I2 q1 q2 q3
        have l1 : (sl "[").length = 1 := by decide +kernel
        have l2 : (sl "]").length = 1 := by decide +kernel
        refine go_cons (I2.goAdd (o := some (sl "[" ++ (z ++ sl "]"))) hi (EVal.f3 (EVal.name q1) (by omega)) fun s3 I3 _ => ?_)
        repeat (first | with_reducible apply go_nil | with_reducible apply go_next)
        refine h s3 ?_
        rw [hfin, q3]; exact I3
      obtain ⟨c, r, hcr⟩ : ∃ c r, S = c :: r := by
        cases S with
        | nil => exact absurd rfl c0
        | cons c r => exact ⟨c, r, rfl⟩
      have hrl : r.length + 1 ≤ 20000 := by have := congrArg List.length hcr; simp at this; omega
      have h0 : EVal (wItem (wName "stuff") (wC (.int 0))) s1 (.str [c]) s1 := EVal.item (EVal.name hs1) EVal.const (itm_str (k := 0) rfl (by rw [hcr]; rfl) (by omega))
      have ht2 : BVal (bCmp .Eq (wItem (wName "stuff") (wC (.int 0))) (wC (.str (sl "!")))) s1 (([c] : T) == sl "!") s1 := BVal.cmp h0 EVal.const rfl
      by_cases c2 : c = 33
      · have hsl : EVal (wSlice (wName "stuff") (pSome (wC (.int 1))) pNone) s1 (.str r) s1 := by
          have := EVal.slice_str (x := S) (EVal.name hs1) (PVal.so (EVal.const (X := .int 1))) PVal.no (by omega)
          have e := psl_ns S 1
          rw [hcr] at e
          have e' : psl (some (1 : Int)) none (c :: r) = r := e
          rw [hcr, e'] at this; exact this
        refine go_ift ht2 (by rw [e33, c2]; rfl) (go_cons (go_assign (EVal.bin EVal.const hsl (bop_add (by rw [e94]; simp; omega))) (go_next (go_nil (go_next ?_)))))
        refine last _ (sl "^" ++ r) (I1.set _ (by decide)) St.get_same (by rw [e94]; simp; omega) ?_
        unfold trHead
        rw [hcr, c2, List.head?_cons, if_pos rfl]; rfl
      · refine go_iff ht2 (by rw [e33]; simpa using c2) (go_cons ?_)
        have ht3 : BVal (bInTwo (wItem (wName "stuff") (wC (.int 0))) "^" "[") s1 (decide (([c] : T) = sl "^" ∨ ([c] : T) = sl "[")) s1 := BVal.inTwo h0
        have hhd : trHead S = if c = 94 ∨ c = 91 then sl "\\" ++ S else S := by
          unfold trHead
          have e : S.head? = some c := by rw [hcr]; rfl
          rw [e, if_neg (by simpa using c2)]
          simp
        by_cases c3 : c = 94 ∨ c = 91
        · refine go_ift ht3 (decide_eq_true (by rw [e94, e91]; simpa using c3)) (go_cons (go_assign (EVal.bin EVal.const (EVal.name hs1) (bop_add (by rw [e92]; simp; omega))) ?_))
          repeat (first | with_reducible apply go_nil | with_reducible apply go_next)
          refine last _ (sl "\\" ++ S) (I1.set _ (by decide)) St.get_same (by rw [e92]; simp; omega) ?_
          rw [hhd, if_pos c3]
        · refine go_iff ht3 (decide_eq_false (by rw [e94, e91]; simpa using c3)) ?_
          repeat (first | with_reducible apply go_nil | with_reducible apply go_next)
          refine last s1 S I1 hs1 (by omega) ?_
          rw [hhd, if_neg c3]
end
theorem tr_brk {base : List O} {x qm : T} {k k0 ka j : Nat} {s : St} {i : Nat} {its : List (Option T)} {Q : Fl → St → Prop} {rest : SW} (hx : x.length ≤ 60) (I : TI base x k qm k0 ka s i its) (hj : s.loc "j" = some (.int (j : Nat))) (hf : fnd x 93 (fst33 x i + 1) x.length = some j)
    (h : ∀ s' i', TI base x k qm k0 ka s' i' its → s'.loc "j" = some (.int (j : Nat)) → ∀ Y, s'.loc "stuff" = some (.str Y) → escT Y = stuffT (seg x i j) → Y.length ≤ 10000 → rest s' Q) :
    (sCons (sAssign "stuff" (wSlice (wName "pat") (pSome (wName "i")) (pSome (wName "j")))) (sCons (sIf (bNotIn 45 (wName "stuff")) (sCons (sAssign "stuff" (wRepl (wName "stuff") 92 (sl "\\\\"))) sNil) (sCons (sAssign "chunks" (wList lNil)) (sCons (sAssign "k" (wIte (bCmp .Eq (wItem (wName "pat") (wName "i")) (wC (.str (sl "!")))) (wBin .Add (wName "i") (wC (.int 2))) (wBin .Add (wName "i") (wC (.int 1))))) (sCons (sWhile (bVal (wC (.bool true))) w_translate_while3) (sCons (sAssign "chunk" (wSlice (wName "pat") (pSome (wName "i")) (pSome (wName "j")))) (sCons (sIf (bVal (wName "chunk")) (sCons (sExpr (wMethL (wName "chunks") (lCons (wName "chunk") lNil) cAppend)) sNil) (sCons (sAugItem (wName "chunks") (wC (.int (-1))) .Add (wC (.str (sl "-")))) sNil)) (sCons (sDown "k" (wBin .Sub (wCall (lCons (wName "chunks") lNil) cLen) (wC (.int 1))) w_translate_for2) (sCons (sAssign "stuff" (fun st Q => (wC (.str (sl "-"))) st fun X st1 => ∃ x, X = .str x ∧ jGen "chunks" dashed (fun t => t.length ≤ 1000) x st1 Q)) sNil)))))))) rest)) s Q := by
  obtain ⟨f1, f2, f3, f4⟩ := fnd_some hf
  have hF := fst33_le x i
  have hsl := seg_len_eq (x := x) (a := i) (b := j) (by omega)
  refine go_cons (go_assign (slice_nat I.pat I.vi hj (by omega)) (go_next (go_cons ?_)))
  have I1 := I.set (y := "stuff") (.str (seg x i j)) (by decide)
  have hj1 : (s.set "stuff" (.str (seg x i j))).loc "j" = some (.int (j : Nat)) := St.get_ne (by decide) hj
  have hs1 : (s.set "stuff" (.str (seg x i j))).loc "stuff" = some (.str (seg x i j)) := St.get_same
  generalize s.set "stuff" (.str (seg x i j)) = s1 at I1 hj1 hs1 ⊢
  clear hj I
  by_cases h45 : 45 ∈ seg x i j
  · refine go_iff (BVal.notIn (EVal.name hs1)) (by simp [h45]) (go_cons (go_assign (EVal.list LVal.nil (by simp)) (go_next (go_cons ?_))))
    have I2 := (I1.push (.list [])).set (y := "chunks") (.ref s1.sto.length) (by decide)
    have K : KI base x k qm k0 ka its j s1.sto.length ((s1.push (.list [])).set "chunks" (.ref s1.sto.length)) i [] :=
      ⟨I2, St.get_ne (by decide) hj1, St.get_same, lt_of_get I1.obj, lt_of_get I1.addO, push_new⟩
    generalize (s1.push (.list [])).set "chunks" (.ref s1.sto.length) = s2 at I2 K ⊢
    generalize s1.sto.length = m at K
    have e33 : sl "!" = [33] := by decide +kernel
    obtain ⟨c, hc⟩ : ∃ c, x[i]? = some c := ⟨_, List.getElem?_eq_getElem (by omega)⟩
    have ht : BVal (bCmp .Eq (wItem (wName "pat") (wName "i")) (wC (.str (sl "!")))) s2 (decide (x[i]? = some 33)) s2 := by
      have := BVal.cmp (op := .Eq) (EVal.item (EVal.name I2.pat) (EVal.name I2.vi) (itm_str rfl hc (by omega))) (EVal.const (X := .str (sl "!"))) rfl
      have e : (([c] : T) == sl "!") = decide (x[i]? = some 33) := by
        rw [e33, hc]; by_cases q : c = 33 <;> simp [q]
      rw [e] at this; exact this
    have hk : EVal (wIte (bCmp .Eq (wItem (wName "pat") (wName "i")) (wC (.str (sl "!")))) (wBin .Add (wName "i") (wC (.int 2))) (wBin .Add (wName "i") (wC (.int 1)))) s2 (.int ((fst33 x i + 1 : Nat) : Int)) s2 := by
      unfold fst33
      by_cases q : x[i]? = some 33
      · rw [decide_eq_true q] at ht
        rw [if_pos q]
        exact EVal.ite_t ht (EVal.bin (EVal.name I2.vi) (EVal.const (X := .int 2)) bop_addi)
      · rw [decide_eq_false q] at ht
        rw [if_neg q]
        exact EVal.ite_f ht (EVal.bin (EVal.name I2.vi) (EVal.const (X := .int 1)) bop_addi)
    refine go_assign hk (go_next ?_)
    have hCH : chs (seg x i j) = ch (seg x i (fst33 x i + 1)) (seg x (fst33 x i + 1) j) := by
      have hsp := seg_split x (a := i) (b := fst33 x i + 1) (c := j) (by omega) f1
      have hl1 := seg_len_eq (x := x) (a := i) (b := fst33 x i + 1) (by omega)
      have e : (if (seg x i j).head? = some 33 then 2 else 1) = (seg x i (fst33 x i + 1)).length := by
        rw [hl1, seg_cons hc (by omega), List.head?_cons]
        unfold fst33
        rw [hc]
        by_cases q : c = 33
        · simp [q]; omega
        · simp [q]
      show ch ((seg x i j).take (if (seg x i j).head? = some 33 then 2 else 1)) ((seg x i j).drop (if (seg x i j).head? = some 33 then 2 else 1)) = _
      rw [e, hsp, List.take_left, List.drop_left]
    have hsz := chs_size (seg x i j)
    have hne : seg x i (fst33 x i + 1) ≠ [] := by
      have hl1 := seg_len_eq (x := x) (a := i) (b := fst33 x i + 1) (by omega)
      intro q; rw [q] at hl1; simp at hl1; omega
    obtain ⟨t0, rs, g1, g2, g3, _⟩ := ch_good _ (seg x (fst33 x i + 1) j) (seg x i (fst33 x i + 1)) (Nat.le_refl _) hne
    refine tr_chunks (CH := chs (seg x i j)) (kk := fst33 x i + 1) (by omega) (by omega) (K.set _ (by decide) (by decide) (by decide)) St.get_same (.inl ⟨by omega, f1, by rw [hCH]; simp⟩) fun s3 i3 cs K3 hl3 hR3 => ?_
    refine tr_tail (CH := chs (seg x i j)) (by omega) (by omega) ⟨t0, rs, by rw [hCH]; exact g1, g2, g3⟩ (by omega) (by omega) K3 hl3 hR3 fun s4 i4 I4 hj4 hs4 => ?_
    refine go_nil (go_next ?_)
    refine h s4 i4 I4 hj4 _ hs4 ?_ ?_
    · unfold stuffT; rw [if_pos h45]
    · have h1 := joins_len (sl "-") ((mg (chs (seg x i j))).map dashed)
      have h2 := dashed_sum (mg (chs (seg x i j)))
      have h3 := mg_size (chs (seg x i j))
      have e : (sl "-").length = 1 := by decide +kernel
      rw [e, List.length_map] at h1
      omega
  · have l2 : (sl "\\\\").length = 2 := by decide +kernel
    refine go_ift (BVal.notIn (EVal.name hs1)) (by simp [h45]) (go_cons (go_assign (EVal.repl (EVal.name hs1) (by rw [l2]; omega)) (go_next (go_nil (go_next ?_)))))
    refine h _ i (I1.set _ (by decide)) (St.get_ne (by decide) hj1) _ St.get_same ?_ ?_
    · unfold stuffT; rw [if_neg h45]
    · have := repl_len 92 (sl "\\\\") (by rw [l2]; exact Nat.le_refl _) (seg x i j); omega

theorem spec_translate0 {x qm : T} {k : Nat} {st : St} {Q : V → St → Prop} (hx : x.length ≤ 60) (h : ∀ s' r, Pre st.sto s' → s'[r]? = some (.list ((trItems qm x).map (toV k))) → Q (.ref r) ⟨st.loc, s', st.nb⟩) : w_translate [.str x, .ref k, .str qm] st Q := by
  refine go_def rfl fun s hs hnb hloc => ?_
  unfold b_translate
  have hl1 : s.loc "pat" = some (.str x) := by rw [hloc]; rfl
  have hl2 : s.loc "STAR" = some (.ref k) := by rw [hloc]; rfl
  have hl3 : s.loc "QUESTION_MARK" = some (.str qm) := by rw [hloc]; rfl
  have e42 : sl "*" = [42] := by decide +kernel
  have e63 : sl "?" = [63] := by decide +kernel
  have e91 : sl "[" = [91] := by decide +kernel
  refine go_cons (go_assign (EVal.list LVal.nil (by simp)) (go_next (go_cons (go_assign (EVal.app (k := s.sto.length) (xs := []) (by (first | with_reducible assumption | with_reducible exact St.get_same | (with_reducible apply St.get_int; omega) | ((with_reducible (repeat (first | (apply St.get_ne; decide) | apply St.get_push | apply St.get_upd))); (first | with_reducible assumption | with_reducible exact St.get_same | (with_reducible apply St.get_int; omega))))) push_new) (go_next (go_cons ?_))))))
  refine go_pair EVal.const (EVal.call (LVal.cons (EVal.name (by (first | with_reducible assumption | with_reducible exact St.get_same | (with_reducible apply St.get_int; omega) | ((with_reducible (repeat (first | (apply St.get_ne; decide) | apply St.get_push | apply St.get_upd))); (first | with_reducible assumption | with_reducible exact St.get_same | (with_reducible apply St.get_int; omega)))))) LVal.nil) (CVal.len_str (by omega))) (go_next (go_cons ?_))
  have I0 : ∀ s0 : St, s0.nb = s.nb → s0.sto = (s.sto ++ [O.list []]) ++ [O.app s.sto.length] → s0.loc "pat" = some (.str x) → s0.loc "STAR" = some (.ref k) → s0.loc "QUESTION_MARK" = some (.str qm) → s0.loc "add" = some (.ref (s.sto ++ [O.list []]).length) → s0.loc "n" = some (.int (x.length : Nat)) → s0.loc "i" = some (.int (0 : Nat)) → s0.loc "res" = some (.ref s.sto.length) →
      TI st.sto x k qm s.sto.length (s.sto ++ [O.list []]).length s0 0 [] := fun s0 q1 q2 q3 q4 q4' q5 q6 q7 q8 =>
    ⟨by rw [q1, hnb], by rw [q2, hs]; exact (Pre.rfl'.push _).push _, by rw [hs]; exact Nat.le_refl _, by simp, q3, q4, q4', q5, by rw [q2]; exact push_new, q6, q7, q8, by rw [q2]; exact push_get push_new⟩
  refine go_while (fun n s1 => ∃ i its, TI st.sto x k qm s.sto.length (s.sto ++ [O.list []]).length s1 i its ∧ i ≤ x.length ∧ its.length ≤ i ∧ ((toks x i).map (trO qm)).foldl stepO its = trItems qm x ∧ n = x.length - i) x.length
    ⟨0, [], ?_, Nat.zero_le _, by simp, rfl, by simp⟩ ?_
  · exact I0 _ rfl rfl (by (first | with_reducible assumption | with_reducible exact St.get_same | (with_reducible apply St.get_int; omega) | ((with_reducible (repeat (first | (apply St.get_ne; decide) | apply St.get_push | apply St.get_upd))); (first | with_reducible assumption | with_reducible exact St.get_same | (with_reducible apply St.get_int; omega))))) (by (first | with_reducible assumption | with_reducible exact St.get_same | (with_reducible apply St.get_int; omega) | ((with_reducible (repeat (first | (apply St.get_ne; decide) | apply St.get_push | apply St.get_upd))); (first | with_reducible assumption | with_reducible exact St.get_same | (with_reducible apply St.get_int; omega))))) (by (first | with_reducible assumption | with_reducible exact St.get_same | (with_reducible apply St.get_int; omega) | ((with_reducible (repeat (first | (apply St.get_ne; decide) | apply St.get_push | apply St.get_upd))); (first | with_reducible assumption | with_reducible exact St.get_same | (with_reducible apply St.get_int; omega))))) (by exact St.get_ne (by decide) (St.get_ne (by decide) St.get_same)) (by (first | with_reducible assumption | with_reducible exact St.get_same | (with_reducible apply St.get_int; omega) | ((with_reducible (repeat (first | (apply St.get_ne; decide) | apply St.get_push | apply St.get_upd))); (first | with_reducible assumption | with_reducible exact St.get_same | (with_reducible apply St.get_int; omega))))) (by exact St.get_same) (by (first | with_reducible assumption | with_reducible exact St.get_same | (with_reducible apply St.get_int; omega) | ((with_reducible (repeat (first | (apply St.get_ne; decide) | apply St.get_push | apply St.get_upd))); (first | with_reducible assumption | with_reducible exact St.get_same | (with_reducible apply St.get_int; omega)))))
  rintro n s1 ⟨i, its, I, hi, hlen, hfold, hn⟩
  refine go_b (lt_nat I.vi I.vn) ?_
  by_cases hlt : i < x.length
  · rw [decide_eq_true hlt]
    refine go_tt ?_
    obtain ⟨c, hc⟩ : ∃ c, x[i]? = some c := ⟨_, List.getElem?_eq_getElem hlt⟩
    unfold w_translate_while1
    refine go_cons (go_assign (EVal.item (EVal.name I.pat) (EVal.name I.vi) (itm_str rfl hc (by omega))) (go_next (go_cons ?_)))
    have I1 := I.set (y := "c") (.str [c]) (by decide)
    have hc1 : (s1.set "c" (.str [c])).loc "c" = some (.str [c]) := St.get_same
    generalize s1.set "c" (.str [c]) = s2 at I1 hc1 ⊢
    refine go_assign (EVal.bin (EVal.name I1.vi) EVal.const bop_addi) (go_next (go_cons ?_))
    have I2 := I1.setI (j := i + 1) (v := (i : Int) + 1) (by omega)
    have hc2 : (s2.set "i" (.int ((i : Int) + 1))).loc "c" = some (.str [c]) := St.get_ne (by decide) hc1
    generalize s2.set "i" (.int ((i : Int) + 1)) = s3 at I2 hc2 ⊢
    clear I1 hc1 I
    have tst : ∀ q : String, ∀ d : Nat, sl q = [d] → BVal (bCmp .Eq (wName "c") (wC (.str (sl q)))) s3 (decide (c = d)) s3 := fun q d e => by
      have := BVal.cmp (op := .Eq) (EVal.name hc2) (EVal.const (X := .str (sl q))) rfl
      have e2 : (([c] : T) == sl q) = decide (c = d) := by
        rw [e]; by_cases h : c = d <;> simp [h]
      rw [e2] at this; exact this
    -- back at the head
    have back : ∀ (s4 : St) (i' : Nat) (its' : List (Option T)), TI st.sto x k qm s.sto.length (s.sto ++ [O.list []]).length s4 i' its' → i < i' → i' ≤ x.length → its'.length ≤ i' → ((toks x i').map (trO qm)).foldl stepO its' = trItems qm x →
        ∃ m, m < n ∧ ∃ i its, TI st.sto x k qm s.sto.length (s.sto ++ [O.list []]).length s4 i its ∧ i ≤ x.length ∧ its.length ≤ i ∧ ((toks x i).map (trO qm)).foldl stepO its = trItems qm x ∧ m = x.length - i :=
      fun s4 i' its' J q1 q2 q3 q4 => ⟨x.length - i', by omega, i', its', J, q2, q3, q4, rfl⟩
    by_cases c1 : c = 42
    · subst c1
      rw [toks_star hc] at hfold
      refine go_ift (tst "*" 42 e42) rfl (go_cons ?_)
      have htest : BVal (bOr (bNot (bVal (wName "res"))) (bCmp .IsNot (wItem (wName "res") (wC (.int (-1)))) (wName "STAR"))) s3 (!decide (its.getLast? = some none)) s3 := by
        have hn : BVal (bNot (bVal (wName "res"))) s3 (!decide (its.map (toV k) ≠ [])) s3 := BVal.not (BVal.val (EVal.name I2.res) (tru_list I2.obj (by simp; omega)))
        rcases List.eq_nil_or_concat its with rfl | ⟨l, o, rfl⟩
        · exact BVal.or hn (fun _ => ⟨by simp, rfl⟩) (fun e => by simp at e)
        · rw [List.concat_eq_append] at hn hlen I2 ⊢
          have hob : s3.sto[s.sto.length]? = some (.list (l.map (toV k) ++ [toV k o])) := I2.obj.trans (by simp)
          have hn' : (!decide ((l ++ [o]).map (toV k) ≠ [])) = false := by simp
          rw [hn'] at hn
          refine BVal.or hn (fun e => nomatch e) (fun _ => BVal.cmp (EVal.item (EVal.name I2.res) EVal.const (itm_last hob (by simp at hlen ⊢; omega))) (EVal.name I2.star) ?_)
          cases o with
          | none => show some (!(k == k)) = _; simp
          | some t => show some true = _; simp
      by_cases hlast : its.getLast? = some none
      · refine go_iff htest (by simp [hlast]) ?_
        repeat (first | with_reducible apply go_nil | with_reducible apply go_next)
        have : stepO its none = its := if_pos hlast
        refine back s3 (i + 1) its I2 (by omega) (by omega) (by omega) ?_
        rw [← hfold, List.map_cons, List.foldl_cons]
        show _ = List.foldl stepO (stepO its none) _
        rw [this]
      · refine go_ift htest (by simp [hlast]) (go_cons (I2.goAdd (o := none) (by omega) (EVal.name I2.star) fun s4 I4 _ => ?_))
        repeat (first | with_reducible apply go_nil | with_reducible apply go_next)
        have : stepO its none = its ++ [none] := if_neg hlast
        refine back s4 (i + 1) _ I4 (by omega) (by omega) (by simp; omega) ?_
        rw [← hfold, List.map_cons, List.foldl_cons]
        show _ = List.foldl stepO (stepO its none) _
        rw [this]
    · refine go_iff (tst "*" 42 e42) (decide_eq_false c1) (go_cons ?_)
      by_cases c2 : c = 63
      · subst c2
        rw [toks_sign hc (by decide) (by decide)] at hfold
        refine go_ift (tst "?" 63 e63) rfl (go_cons (I2.goAdd (o := some qm) (by omega) (EVal.name I2.qmk) fun s4 I4 _ => ?_))
        repeat (first | with_reducible apply go_nil | with_reducible apply go_next)
        exact back s4 (i + 1) _ I4 (by omega) (by omega) (by simp; omega) hfold
      · refine go_iff (tst "?" 63 e63) (decide_eq_false c2) (go_cons ?_)
        by_cases c3 : c = 91
        · subst c3
          refine go_ift (tst "[" 91 e91) rfl ?_
          refine tr_scan (by omega) I2 (by omega) fun s4 j I4 hj4 hjl hf => ?_
          refine go_cons ?_
          have htge : BVal (bCmp .GtE (wName "j") (wName "n")) s4 (decide (j ≥ x.length)) s4 := by
            have := BVal.cmp (op := .GtE) (EVal.name hj4) (EVal.name I4.vn) rfl
            have e : decide ((j : Int) ≥ (x.length : Int)) = decide (j ≥ x.length) := by
              by_cases h : j ≥ x.length
              · rw [decide_eq_true h, decide_eq_true (by omega)]
              · rw [decide_eq_false h, decide_eq_false (by omega)]
            rw [e] at this; exact this
          rcases hf with ⟨hf, hjx⟩ | hf
          · rw [toks_op hc hf] at hfold
            refine go_ift htge (decide_eq_true (by omega)) (go_cons (I4.goAdd (o := some (sl "\\[")) (by omega) EVal.const fun s5 I5 _ => ?_))
            repeat (first | with_reducible apply go_nil | with_reducible apply go_next)
            exact back s5 (i + 1) _ I5 (by omega) (by omega) (by simp; omega) hfold
          · obtain ⟨f1, f2, f3, f4⟩ := fnd_some hf
            have hF := fst33_le x (i + 1)
            have hb := toks_brk hc hf
            rw [hb] at hfold
            refine go_iff htge (decide_eq_false (by omega)) ?_
            refine tr_brk hx I4 hj4 hf fun s5 i5 I5 hj5 Y hY hYe hYl => ?_
            refine tr_finish I5 hj5 hY hYl (by omega) fun s6 I6 => ?_
            repeat (first | with_reducible apply go_nil | with_reducible apply go_next)
            refine back s6 (j + 1) _ I6 (by omega) (by omega) (by simp; omega) ?_
            rw [← hfold, hYe, List.map_cons, List.foldl_cons]
            show List.foldl stepO (its ++ [some (trFin (stuffT (seg x (i + 1) j)))]) _ = List.foldl stepO (its ++ [some (trFin (stuffT (seg x (i + 1) (fst33 x (i + 1)) ++ seg x (fst33 x (i + 1)) j)))]) _
            rw [← seg_split x hF.1 (by omega)]
        · refine go_iff (tst "[" 91 e91) (decide_eq_false c3) ?_
          rw [toks_sign hc c1 c3] at hfold
          refine go_cons (I2.goAdd (o := some (esc1 specials c)) (by omega) (EVal.call (st1 := s3) (LVal.cons (EVal.name hc2) LVal.nil) fun Q q => spec_escape q) fun s4 I4 _ => ?_)
          repeat (first | with_reducible apply go_nil | with_reducible apply go_next)
          refine back s4 (i + 1) _ I4 (by omega) (by omega) (by simp; omega) ?_
          rw [← hfold, List.map_cons, List.foldl_cons]
          show _ = List.foldl stepO (stepO its (if c = 63 then some qm else some (esc1 specials c))) _
          rw [if_neg c2]; rfl
  · rw [decide_eq_false hlt]
    have hin : i = x.length := by omega
    subst hin
    rw [toks_end (Nat.le_refl _)] at hfold
    have hf' : its = trItems qm x := hfold
    have ht : BVal (bCmp .Eq (wName "i") (wName "n")) s1 true s1 := BVal.cmp (EVal.name I.vi) (EVal.name I.vn) (by show some _ = some _; simp)
    refine go_tf (go_next (go_cons (go_assert ht (go_next (go_cons (go_ret (EVal.name I.res) (go_kret (go_fnret ?_))))))))
    exact h _ _ I.pre (by rw [← hf']; exact I.obj)
theorem go_call {b : LW} {W : CW} {Xs : List V} {st st1 : St} {Q : V → St → Prop} (hb : LVal b st Xs st1) (h : W Xs st1 Q) : wCall b W st Q := hb _ h
/-- a pattern of ours -/
structure OkP (x : T) : Prop where
  len : x.length ≤ 60
  quo : 34 ∉ x
  ok : OkT x
theorem sizes {qm x : T} (hq : qm.length = 1) (hu : Un qm qm) (P : OkP x) : (trItems qm x).length ≤ 60 ∧ total (trItems qm x) ≤ 8000 ∧ (body (rowsR (trItems qm x))).length ≤ 9000 := by
  have h1 := (rel_items hu P.quo).lens hq
  have h2 := lawItems_len x
  have h3 : (x.length + 4) * x.length ≤ 64 * 60 := Nat.mul_le_mul (by have := P.len; omega) P.len
  have h4 := body_len (trItems qm x)
  have := P.len
  omega
theorem un_dot : Un (sl ".") (sl ".") := Un.self (sl ".") (by decide +kernel) (by decide +kernel)
theorem un_qm : Un (sl "?") (sl "?") := Un.self (sl "?") (by decide +kernel) (by decide +kernel)
theorem spec_translate {x : T} {st : St} {Q : V → St → Prop} (P : OkP x) (h : ∀ s', Pre st.sto s' → Q (.str (whole (trItems (sl ".") x))) ⟨st.loc, s', st.nb⟩) : wtranslate [.str x] st Q := by
  refine go_def rfl fun s hs hnb hloc => ?_
  unfold btranslate
  have hl : s.loc "pat" = some (.str x) := by rw [hloc]; rfl
  obtain ⟨b1, b2, b3⟩ := sizes (qm := sl ".") (by decide +kernel) un_dot P
  refine go_cons (go_assign (X := .ref s.sto.length) (st1 := s.push .obj) (fun Q q => ⟨rfl, q⟩) (go_next (go_cons ?_)))
  refine go_assignCall (LVal.cons (EVal.name (by (first | with_reducible assumption | with_reducible exact St.get_same | (with_reducible apply St.get_int; omega) | ((with_reducible (repeat (first | (apply St.get_ne; decide) | apply St.get_push | apply St.get_upd))); (first | with_reducible assumption | with_reducible exact St.get_same | (with_reducible apply St.get_int; omega)))))) (LVal.cons (EVal.name (by (first | with_reducible assumption | with_reducible exact St.get_same | (with_reducible apply St.get_int; omega) | ((with_reducible (repeat (first | (apply St.get_ne; decide) | apply St.get_push | apply St.get_upd))); (first | with_reducible assumption | with_reducible exact St.get_same | (with_reducible apply St.get_int; omega)))))) (LVal.cons EVal.const LVal.nil))) (spec_translate0 P.len fun s1 r hpre hr => go_next (go_cons ?_))
  show wCall _ _ _ (fun X st1 => kSeq sNil (kFn st Q) (.ret X) st1)
  refine go_call (LVal.cons (EVal.name (by (first | with_reducible assumption | with_reducible exact St.get_same | (with_reducible apply St.get_int; omega) | ((with_reducible (repeat (first | (apply St.get_ne; decide) | apply St.get_push | apply St.get_upd))); (first | with_reducible assumption | with_reducible exact St.get_same | (with_reducible apply St.get_int; omega)))))) (LVal.cons (EVal.name (by (first | with_reducible assumption | with_reducible exact St.get_same | (with_reducible apply St.get_int; omega) | ((with_reducible (repeat (first | (apply St.get_ne; decide) | apply St.get_push | apply St.get_upd))); (first | with_reducible assumption | with_reducible exact St.get_same | (with_reducible apply St.get_int; omega)))))) LVal.nil)) (spec_join (its := trItems (sl ".") x) (by omega) (na_tr _ _) hr (by omega) fun s2 hpre2 => go_kret (go_fnret ?_))
  refine h s2 ?_
  have h1 : Pre s.sto s1 := (Pre.rfl'.push _).trans hpre
  rw [← hs]; exact h1.trans hpre2

theorem okT_rows : ∀ {xs : List (Option T)}, (∀ o ∈ xs, OkO o) → OkT (rowsR xs).1 ∧ ∀ t ∈ (rowsR xs).2, OkT t
  | [], _ => ⟨by intro c hc; simp [rowsR] at hc, by intro t ht; simp [rowsR] at ht⟩
  | none :: r, h => by
    have ih := okT_rows fun o ho => h o (List.mem_cons_of_mem _ ho)
    refine ⟨by intro c hc; simp [rowsR] at hc, fun t ht => ?_⟩
    rcases List.mem_cons.mp ht with rfl | ht
    · exact ih.1
    · exact ih.2 t ht
  | some t :: r, h => by
    have ih := okT_rows fun o ho => h o (List.mem_cons_of_mem _ ho)
    exact ⟨(h (some t) (by simp) t rfl).app ih.1, ih.2⟩
theorem okT_lit2 : OkT (sl ".*") ∧ OkT (sl "(?>.*?") ∧ OkT (sl ")") ∧ OkT (sl "(?s:") ∧ OkT (sl ")Z") := by unfold OkT; decide +kernel
theorem okT_mid : ∀ rs : List T, (∀ t ∈ rs, OkT t) → OkT (mid rs)
  | [], _ => by intro c hc; simp [mid] at hc
  | [l], h => okT_lit2.1.app (h l (by simp))
  | a :: b :: r, h => (okT_lit2.2.1.app ((h a (by simp)).app okT_lit2.2.2.1)).app (okT_mid (b :: r) fun t ht => h t (List.mem_cons_of_mem _ ht))
theorem okT_wholeL {xs : List (Option T)} (h : ∀ o ∈ xs, OkO o) : OkT (wholeL xs) :=
  okT_lit2.2.2.2.1.app (((okT_rows h).1.app (okT_mid _ (okT_rows h).2)).app okT_lit2.2.2.2.2)
theorem okT_qd {t : T} (h : OkT t) : OkT (qd t) := by
  intro c hc
  unfold qd at hc
  rcases List.mem_cons.mp hc with rfl | hc
  · decide
  · rcases List.mem_append.mp hc with hc | hc
    · exact h c hc
    · have : c = 34 := by simpa using hc
      rw [this]; decide
theorem okT_qO {o : Option T} (h : OkO o) : OkT (qO o) := by
  cases o with
  | none => intro c hc; have : c = 42 := by simpa [qO] using hc
            rw [this]; decide
  | some t => exact okT_qd (h t rfl)
theorem okO_dotted {o : Option T} (h : OkO o) : OkO (dotted o) := by
  cases o with
  | none => intro t e; cases e
  | some t =>
    intro u e
    have : u = fq [46] t := by simpa [dotted] using e.symm
    rw [this]
    unfold fq
    split
    · intro c hc; have : c = 46 := by simpa using hc
      rw [this]; decide
    · exact h t rfl
theorem lay_pyS {t : T} (h : OkT t) : (pyS t).canLay0 = true := lay_pyO (o := some t) (fun u e => by cases e; exact h)
theorem lay_pySs : ∀ {ts : List T}, (∀ t ∈ ts, OkT t) → PyData.canLayAll0 (ts.map pyS) = true
  | [], _ => by simp [PyData.canLayAll0]
  | t :: ts, h => by
    rw [List.map_cons, PyData.canLayAll0, lay_pyS (h t (by simp)), lay_pySs fun p hp => h p (List.mem_cons_of_mem _ hp)]; rfl
theorem lay_due {x : T} (P : OkP x) : (dueD x).canLay0 = true := by
  have h1 : PyData.canLayAll0 (((lawItems x).map qO).map pyS) = true := lay_pySs fun t ht => by
    obtain ⟨o, ho, rfl⟩ := List.mem_map.mp ht
    exact okT_qO (okO_law P.ok o ho)
  rw [List.map_map] at h1
  have h2 : PyData.canLayAll0 [pyS (qd (wholeL ((lawItems x).map dotted)))] = true := lay_pySs (ts := [_]) fun t ht => by
    have : t = qd (wholeL ((lawItems x).map dotted)) := by simpa using ht
    rw [this]
    refine okT_qd (okT_wholeL fun o ho => ?_)
    obtain ⟨p, hp, rfl⟩ := List.mem_map.mp ho
    exact okO_dotted (okO_law P.ok p hp)
  unfold dueD
  simp only [PyData.canLay0, PyData.canLayAll0, Bool.and_true] at h2 ⊢
  rw [h2, Bool.and_true]; exact h1

theorem told_items {x : T} (P : OkP x) : plist (joins (sl ", ") ((trItems (sl "?") x).map qO)) = (lawItems x).map qO := by
  have e : sl ", " = [44, 32] := by decide +kernel
  have e2 : sl "?" = [63] := by decide +kernel
  rw [e]
  refine plist_items (rel_items un_qm P.quo) fun o _ => ?_
  cases o with
  | none => rfl
  | some t =>
    show some (fq (sl "?") t) = some t
    rw [e2]
    unfold fq
    split
    · rename_i q; rw [q]
    · rfl
theorem told_whole {x : T} (P : OkP x) : plist (qd (whole (trItems (sl ".") x))) = [qd (wholeL ((lawItems x).map dotted))] := by
  have e2 : sl "." = [46] := by decide +kernel
  have h := rel_items un_dot P.quo
  have h2 := plist_one (un_whole h)
  rw [h2]
  have : (Option.map (fq (sl "."))) = dotted := by funext o; rw [e2]; rfl
  rw [this]
theorem qO_len (o : Option T) : (qO o).length ≤ (o.getD []).length + 2 := by
  cases o <;> simp [qO, qd]
theorem lsum_qO : ∀ os : List (Option T), lsum (os.map qO) ≤ total os + 2 * os.length
  | [] => by simp [lsum]
  | o :: os => by
    have ih := lsum_qO os
    have h := qO_len o
    simp only [lsum, total, List.map_cons, List.sum_cons, List.length_cons] at ih ⊢
    omega
theorem spec_told {x : T} {st : St} {Q : V → St → Prop} (P : OkP x) (h : ∀ s' r, Pre st.sto s' → dat s' 2 (.ref r) = some (dueD x) → Q (.ref r) ⟨st.loc, s', st.nb⟩) : w_law_told [.str x] st Q := by
  refine ⟨.str x, rfl, ?_⟩
  show b_law_told _ (kFn st Q)
  generalize hst : (⟨fun y => if y = "pattern" then some (V.str x) else none, st.sto ++ [.cell none], st.sto.length⟩ : St) = s
  have hl : s.loc "pattern" = some (.str x) := by rw [← hst]; rfl
  have hsto : s.sto = st.sto ++ [.cell none] := by rw [← hst]
  have hnb : s.nb = st.sto.length := by rw [← hst]
  clear hst
  unfold b_law_told
  obtain ⟨b1, b2, b3⟩ := sizes (qm := sl ".") (by decide +kernel) un_dot P
  obtain ⟨c1, c2, c3⟩ := sizes (qm := sl "?") (by decide +kernel) un_qm P
  have e34 : sl "\"" = [34] := by decide +kernel
  have l34 : (sl "\"").length = 1 := by decide +kernel
  have e42 : sl "*" = [42] := by decide +kernel
  have hcell : s.sto[s.nb]? = some (.cell none) := by rw [hsto, hnb]; exact push_new
  have hsc : ∀ K : Fl → St → Prop, K .next ((s.push (.list [.str (sl "*")])).upd s.nb (.cell (some (.ref s.sto.length)))) → sCellN (wList (lCons (wC (.str (sl "*"))) lNil)) s K := fun K k =>
    EVal.list (st := s) (LVal.cons EVal.const LVal.nil) (by simp) _ ⟨none, push_get hcell, k⟩
  refine go_cons (hsc _ (go_next ?_))
  have hc1 : ((s.push (.list [.str (sl "*")])).upd s.nb (.cell (some (.ref s.sto.length)))).sto[s.nb]? = some (.cell (some (.ref s.sto.length))) := set_get (push_get hcell)
  have hp1 : Pre st.sto ((s.push (.list [.str (sl "*")])).upd s.nb (.cell (some (.ref s.sto.length)))).sto := by
    show Pre st.sto ((s.sto ++ _).set _ _)
    rw [hsto]
    exact ((Pre.rfl'.push _).push _).set _ (by rw [hnb]; exact Nat.le_refl _)
  have hl1 : ((s.push (.list [.str (sl "*")])).upd s.nb (.cell (some (.ref s.sto.length)))).loc "pattern" = some (.str x) := hl
  have hn1 : ((s.push (.list [.str (sl "*")])).upd s.nb (.cell (some (.ref s.sto.length)))).nb = s.nb := rfl
  generalize (s.push (.list [.str (sl "*")])).upd s.nb (.cell (some (.ref s.sto.length))) = s1 at hc1 hp1 hl1 hn1 ⊢
  generalize s.sto.length = k at hc1
  have hce : ∀ s2 : St, s2.sto[s2.nb]? = some (.cell (some (.ref k))) → EVal wCellN s2 (.ref k) s2 := fun s2 h Q q => ⟨.ref k, h, q⟩
  rw [← hn1] at hc1
  refine go_cons (go_assignCall (LVal.cons (EVal.name hl1) (LVal.cons (hce s1 hc1) (LVal.cons EVal.const LVal.nil))) (spec_translate0 P.len fun s2 r hp2 hr => go_next (go_cons ?_)))
  have hc2 : s2[s1.nb]? = some (.cell (some (.ref k))) := hp2.get hc1
  generalize hits : trItems (sl "?") x = its at hr c1 c2 c3
  have htex : EVal (wComp "part" (wName "parts") (wIte (bCmp .Is (wName "part") wCellN) (wC (.str (sl "*"))) (wBin .Add (wBin .Add (wC (.str (sl "\""))) (wName "part")) (wC (.str (sl "\"")))))) ((⟨s1.loc, s2, s1.nb⟩ : St).set "parts" (.ref r)) (.ref s2.length) (((⟨s1.loc, s2, s1.nb⟩ : St).set "parts" (.ref r)).push (.list ((its.map qO).map .str))) := by
    refine EVal.comp (EVal.name (by (first | with_reducible assumption | with_reducible exact St.get_same | (with_reducible apply St.get_int; omega) | ((with_reducible (repeat (first | (apply St.get_ne; decide) | apply St.get_push | apply St.get_upd))); (first | with_reducible assumption | with_reducible exact St.get_same | (with_reducible apply St.get_int; omega)))))) hr fun Q' q => comp_plain (g := fun X => match X with | .str t => .str (qd t) | _ => .str [42]) _ [] _ hr (by simp; omega) (fun X hX s5 h3 h4 h5 => ?_) ?_
    · obtain ⟨o, ho, rfl⟩ := List.mem_map.mp hX
      have hcc : s5.sto[s5.nb]? = some (.cell (some (.ref k))) := by rw [h4, h5]; exact hc2
      cases o with
      | none =>
        refine EVal.ite_t (BVal.cmp (op := .Is) (EVal.name h3) (hce s5 hcc) (by show some (k == k) = some true; simp)) ?_
        show EVal _ _ (.str [42]) _
        rw [← e42]; exact EVal.const
      | some t =>
        have := total_mem ho
        refine EVal.ite_f (BVal.cmp (op := .Is) (EVal.name h3) (hce s5 hcc) rfl) ?_
        have := EVal.bin (op := .Add) (EVal.bin (op := .Add) (EVal.const (st := s5) (X := .str (sl "\""))) (EVal.name h3) (bop_add (x := sl "\"") (y := t) (by omega))) (EVal.const (X := .str (sl "\""))) (bop_add (by rw [List.length_append]; omega))
        rw [e34] at this
        show EVal _ _ (.str (qd t)) _
        unfold qd
        rw [e34]
        simpa using this
    · have : (([] : List V) ++ (its.map (toV k)).map fun X => match X with | .str t => V.str (qd t) | _ => .str [42]) = (its.map qO).map .str := by
        rw [List.nil_append, List.map_map, List.map_map]
        refine List.map_congr_left fun o _ => ?_
        cases o <;> rfl
      rw [this]; exact q
  refine go_assign htex (go_next (go_cons ?_))
  have hs3 : ((((⟨s1.loc, s2, s1.nb⟩ : St).set "parts" (.ref r)).push (.list ((its.map qO).map .str))).set "texts" (.ref s2.length)).sto = s2 ++ [.list ((its.map qO).map .str)] := rfl
  have hl3 : ((((⟨s1.loc, s2, s1.nb⟩ : St).set "parts" (.ref r)).push (.list ((its.map qO).map .str))).set "texts" (.ref s2.length)).loc "pattern" = some (.str x) := by (first | with_reducible assumption | with_reducible exact St.get_same | (with_reducible apply St.get_int; omega) | ((with_reducible (repeat (first | (apply St.get_ne; decide) | apply St.get_push | apply St.get_upd))); (first | with_reducible assumption | with_reducible exact St.get_same | (with_reducible apply St.get_int; omega))))
  have ht3 : ((((⟨s1.loc, s2, s1.nb⟩ : St).set "parts" (.ref r)).push (.list ((its.map qO).map .str))).set "texts" (.ref s2.length)).loc "texts" = some (.ref s2.length) := by (first | with_reducible assumption | with_reducible exact St.get_same | (with_reducible apply St.get_int; omega) | ((with_reducible (repeat (first | (apply St.get_ne; decide) | apply St.get_push | apply St.get_upd))); (first | with_reducible assumption | with_reducible exact St.get_same | (with_reducible apply St.get_int; omega))))
  generalize (((⟨s1.loc, s2, s1.nb⟩ : St).set "parts" (.ref r)).push (.list ((its.map qO).map .str))).set "texts" (.ref s2.length) = s3 at hs3 hl3 ht3 ⊢
  have hp3 : Pre st.sto s3.sto := by rw [hs3]; exact (hp1.trans hp2).push _
  have ho3 : s3.sto[s2.length]? = some (.list ((its.map qO).map .str)) := by rw [hs3]; exact push_new
  show wCall _ _ s3 (fun X st1 => wBin .Add (wBin .Add (wC (.str (sl "\""))) (wCall (lCons (wName "pattern") lNil) wtranslate)) (wC (.str (sl "\""))) st1 (fun Z st2 => wparse_http_list [Z] st2 (fun Y st2 => [X, Y].length ≤ 16777216 ∧ kSeq sNil (kFn st Q) (.ret (.ref st2.sto.length)) (st2.push (.list [X, Y])))))
  have lsep : (sl ", ").length = 2 := by decide +kernel
  have hlq := lsum_qO its
  have hjl := joins_len (sl ", ") (its.map qO)
  rw [lsep, List.length_map] at hjl
  have hj : EVal (wMethS (wC (.str (sl ", "))) (lCons (wName "texts") lNil) cJoin) s3 (.str (joins (sl ", ") (its.map qO))) s3 :=
    EVal.methS EVal.const (LVal.cons (EVal.name ht3) LVal.nil) (CVal.join ho3 (texts_strs _) (by rw [lsep, List.length_map]; omega))
  refine go_call (LVal.cons hj LVal.nil) (spec_parse (by omega) fun s4 r4 hp4 hr4 => ?_)
  rw [← hits, told_items P] at hr4
  show wCall (lCons (wName "pattern") lNil) wtranslate _ (fun Y st2 => ∃ Z, bop .Add (.str (sl "\"")) Y = some Z ∧ ∃ Z2, bop .Add Z (.str (sl "\"")) = some Z2 ∧ wparse_http_list [Z2] st2 _)
  refine go_call (LVal.cons (EVal.name hl3) LVal.nil) (spec_translate P fun s5 hp5 => ?_)
  have hwl : (whole (trItems (sl ".") x)).length ≤ 9007 := by
    have q1 : (sl "(?s:").length = 4 := by decide +kernel
    have q2 : (sl ")\\Z").length = 3 := by decide +kernel
    unfold whole
    rw [List.length_append, List.length_append]; omega
  have hqd : sl "\"" ++ whole (trItems (sl ".") x) ++ sl "\"" = qd (whole (trItems (sl ".") x)) := by unfold qd; rw [e34]; simp
  refine ⟨_, bop_add (by omega), _, bop_add (by rw [List.length_append]; omega), ?_⟩
  rw [hqd]
  refine spec_parse (by unfold qd; simp; omega) fun s6 r6 hp6 hr6 => ⟨by simp, go_kret (go_fnret ?_)⟩
  rw [told_whole P] at hr6
  have hg : Pre s4 s6 := hp5.trans hp6
  refine h _ _ ?_ ?_
  · exact (((hp3.trans hp4).trans hg).push _)
  · show dat (s6 ++ [_]) 2 (.ref s6.length) = _
    unfold dueD
    refine dat_pair push_new ?_ ?_
    · have := dat_strs (n := 0) (ts := (lawItems x).map qO) (push_get (o := .list [.ref r4, .ref r6]) (hg.get hr4))
      rw [List.map_map] at this
      exact this
    · exact dat_strs (ts := [_]) (push_get hr6)
def one (c : Nat) : T := [c]
theorem joins_ones : ∀ cs : T, joins [] (cs.map one) = cs
  | [] => rfl
  | [c] => rfl
  | c :: d :: r => by
    rw [List.map_cons, List.map_cons, joins_cons]
    have ih := joins_ones (d :: r)
    rw [List.map_cons] at ih
    rw [ih]; rfl
theorem lsum_ones : ∀ cs : T, lsum (cs.map one) = cs.length
  | [] => rfl
  | c :: r => by
    have := lsum_ones r
    simp only [lsum, List.map_cons, List.sum_cons, List.length_cons] at this ⊢
    rw [this]; simp [one]; omega
def OkC (c : Nat) : Prop := c ≠ 34 ∧ c < 1114112
theorem comp_signs {k : Nat} {xs : List V} {loc : String → Option V} {Q : V → St → Prop} : ∀ (r : List Int) (acc : T) (st : St), st.sto[k]? = some (.list xs) → acc.length + r.length ≤ 1000 → (∀ c ∈ acc, OkC c) →
    (∀ cs : T, cs.length = acc.length + r.length → (∀ c ∈ cs, OkC c) → Q (.ref st.sto.length) ⟨loc, st.sto ++ [.list ((cs.map one).map .str)], st.nb⟩) →
    compW k xs "x" (wCall (lCons (wBin .Mod (wName "x") (wC (.int 1000000000))) lNil) w_law_sign) loc (r.map .int) ((acc.map one).map .str) st Q
  | [], acc, st, hk, hl, ha, h => ⟨hk, by simp at hl ⊢; omega, h acc (by simp) ha⟩
  | i :: r, acc, st, hk, hl, ha, h => by
    refine ⟨hk, by simp at hl ⊢; omega, ?_⟩
    have hn : Int.fmod i 1000000000 = ((Int.fmod i 1000000000).toNat : Nat) := by
      have := Int.fmod_nonneg_of_pos i (b := 1000000000) (by decide)
      omega
    have hlt : (Int.fmod i 1000000000).toNat < 1000000000 := by
      have h1 := Int.fmod_lt_of_pos i (b := 1000000000) (by decide)
      omega
    have he : EVal (wBin .Mod (wName "x") (wC (.int 1000000000))) ⟨fun y => if y = "x" then some (V.int i) else none, st.sto, st.nb⟩ (.int ((Int.fmod i 1000000000).toNat : Nat)) ⟨fun y => if y = "x" then some (V.int i) else none, st.sto, st.nb⟩ := by
      rw [← hn]
      exact EVal.bin (EVal.name (by simp)) (EVal.const (X := .int 1000000000)) (bop_mod (by decide))
    refine go_call (LVal.cons he LVal.nil) (spec_sign (by omega) fun c c1 c2 => ?_)
    have hacc : ((acc.map one).map V.str ++ [V.str [c]]) = ((acc ++ [c]).map one).map V.str := by simp [one]
    rw [hacc]
    refine comp_signs r (acc ++ [c]) _ hk (by simp at hl ⊢; omega) (fun d hd => ?_) fun cs h1 h2 => h cs (by simp at h1 ⊢; omega) h2
    rcases List.mem_append.mp hd with hd | hd
    · exact ha d hd
    · have : d = c := by simpa using hd
      rw [this]; exact ⟨c1, c2⟩
theorem dats_app (sto : List O) (n : Nat) {Y : V} {e : PyData} (h : dat sto n Y = some e) : ∀ (Xs : List V) (ds : List PyData), dats sto n Xs = some ds → dats sto n (Xs ++ [Y]) = some (ds ++ [e])
  | [], ds, q => by
    have : ds = [] := by simpa [dats] using q.symm
    subst this
    simp [dats, h]
  | X :: Xs, ds, q => by
    rw [dats] at q
    cases h1 : dat sto n X with
    | none => simp [h1] at q
    | some d =>
      cases h2 : dats sto n Xs with
      | none => simp [h1, h2] at q
      | some ds' =>
        simp only [h1, h2, Option.some.injEq] at q
        subst q
        rw [List.cons_append, dats, h1, dats_app sto n h Xs ds' h2]
        rfl
/-- a comprehension whose elements are what is due -/
theorem comp_due {k : Nat} {xs : List V} {e : EW} {loc : String → Option V} {Q : V → St → Prop}
    (he : ∀ (p : T) (s : St) (K : V → St → Prop), OkP p → s.loc "pattern" = some (.str p) → (∀ s' r, Pre s.sto s' → dat s' 2 (.ref r) = some (dueD p) → K (.ref r) ⟨s.loc, s', s.nb⟩) → e s K) :
    ∀ (ps : List T) (acc : List V) (ds : List PyData) (st : St), (∀ p ∈ ps, OkP p) → st.sto[k]? = some (.list xs) → dats st.sto 2 acc = some ds → acc.length + ps.length ≤ 1000 →
      (∀ s' L, Pre st.sto s' → dat s' 3 (.ref L) = some (.list (ds ++ ps.map dueD)) → Q (.ref L) ⟨loc, s', st.nb⟩) → compW k xs "pattern" e loc (ps.map .str) acc st Q
  | [], acc, ds, st, _, hk, hd, hl, h => by
    refine ⟨hk, by simp at hl; omega, h _ _ (Pre.rfl'.push _) ?_⟩
    rw [dat, push_new]
    have := dats_grow (dat_grow ((Pre.rfl' (a := st.sto)).push (.list acc)) 2) acc ds hd
    simp only [this]
    simp
  | p :: ps, acc, ds, st, hp, hk, hd, hl, h => by
    refine ⟨hk, by simp at hl; omega, ?_⟩
    refine he p _ _ (hp p (by simp)) (by simp) fun s' r hpre hr => ?_
    refine comp_due he ps (acc ++ [.ref r]) (ds ++ [dueD p]) ⟨loc, s', st.nb⟩ (fun q hq => hp q (by simp [hq])) (hpre.get hk) ?_ (by simp at hl ⊢; omega) fun s'' L h1 h2 => h s'' L (hpre.trans h1) (by simpa using h2)
    exact dats_app _ _ hr _ _ (dats_grow (dat_grow hpre 2) acc ds hd)
theorem spec_law {is : List Int} {k : Nat} {st : St} {Q : V → St → Prop} (hk : st.sto[k]? = some (.arg (is.map .int))) (hl : is.length ≤ 1000) (h : ∀ s', Pre st.sto s' → Q (.bool true) ⟨st.loc, s', st.nb⟩) : wlaw [.ref k] st Q := by
  refine go_def rfl fun s hs hnb hloc => ?_
  unfold blaw
  have hsc : s.loc "script" = some (.ref k) := by rw [hloc]; rfl
  have hk' : s.sto[k]? = some (.arg (is.map .int)) := by rw [hs]; exact hk
  have e0 : sl "" = [] := by decide +kernel
  -- the signs
  have hsl : EVal (wSlice (wName "script") pNone (pSome (wC (.int 16)))) s (.ref s.sto.length) (s.push (.list ((is.take 16).map .int))) := by
    have := EVal.slice_arg (EVal.name hsc) PVal.no (PVal.so (EVal.const (X := .int 16))) hk' (by simp; omega)
    have e := psl_sn (is.map V.int) 16
    have e' : psl none (some (16 : Int)) (is.map V.int) = (is.take 16).map V.int := by rw [List.map_take]; exact e
    rw [e'] at this; exact this
  refine go_cons ?_
  show wMethS (wC (.str (sl ""))) (lCons (wComp "x" (wSlice (wName "script") pNone (pSome (wC (.int 16)))) (wCall (lCons (wBin .Mod (wName "x") (wC (.int 1000000000))) lNil) w_law_sign)) lNil) cJoin s (fun X st1 => kSeq _ (kFn st Q) .next (st1.set "signs" X))
  refine ⟨⟨sl "", rfl⟩, ?_⟩
  show wComp "x" (wSlice (wName "script") pNone (pSome (wC (.int 16)))) (wCall (lCons (wBin .Mod (wName "x") (wC (.int 1000000000))) lNil) w_law_sign) s (fun X st1 => cJoin [.str (sl ""), X] st1 (fun X st1 => kSeq _ (kFn st Q) .next (st1.set "signs" X)))
  refine hsl _ ⟨s.sto.length, (is.take 16).map .int, rfl, push_new, ?_⟩
  refine comp_signs (is.take 16) [] (s.push (.list ((is.take 16).map .int))) push_new (by simp; omega) (by simp) fun cs hcl hcs => ?_
  have hcl' : cs.length ≤ 16 := by simp at hcl; omega
  refine CVal.join (xs := (cs.map one).map .str) (ts := cs.map one) push_new (texts_strs _) (by rw [lsum_ones, e0]; simp; omega) _ ?_
  rw [e0, joins_ones]
  refine go_next (go_cons ?_)
  generalize hs1 : (⟨(s.push (.list ((is.take 16).map .int))).loc, (s.push (.list ((is.take 16).map .int))).sto ++ [.list ((cs.map one).map .str)], (s.push (.list ((is.take 16).map .int))).nb⟩ : St).set "signs" (.str cs) = s1
  have hg1 : s1.loc "signs" = some (.str cs) := by rw [← hs1]; exact St.get_same
  have hp1 : Pre st.sto s1.sto := by
    rw [← hs1]
    show Pre st.sto ((s.sto ++ _) ++ _)
    rw [hs]; exact (Pre.rfl'.push _).push _
  clear hs1
  -- the patterns
  have l1 : (sl "*[").length = 2 := by decide +kernel
  have l2 : (sl "]?").length = 2 := by decide +kernel
  have hpat : EVal (wList (lCons (wName "signs") (lCons (wBin .Add (wBin .Add (wC (.str (sl "*["))) (wName "signs")) (wC (.str (sl "]?")))) lNil))) s1 (.ref s1.sto.length) (s1.push (.list [.str cs, .str (sl "*[" ++ cs ++ sl "]?")])) :=
    EVal.list (LVal.cons (EVal.name hg1) (LVal.cons (EVal.bin (EVal.bin EVal.const (EVal.name hg1) (bop_add (by omega))) EVal.const (bop_add (by rw [List.length_append]; omega))) LVal.nil)) (by simp)
  refine go_assign hpat (go_next (go_cons ?_))
  have P1 : OkP cs := ⟨by omega, fun m => (hcs 34 m).1 rfl, fun c hc => (hcs c hc).2⟩
  have hlit : ∀ c ∈ sl "*[" ++ sl "]?", OkC c := by unfold OkC; decide +kernel
  have hc2 : ∀ c ∈ sl "*[" ++ cs ++ sl "]?", OkC c := fun c hc => by
    rcases List.mem_append.mp hc with hc | hc
    · rcases List.mem_append.mp hc with hc | hc
      · exact hlit c (by simp [hc])
      · exact hcs c hc
    · exact hlit c (by simp [hc])
  have P2 : OkP (sl "*[" ++ cs ++ sl "]?") := ⟨by rw [List.length_append, List.length_append]; omega, fun m => (hc2 34 m).1 rfl, fun c hc => (hc2 c hc).2⟩
  generalize sl "*[" ++ cs ++ sl "]?" = cs2 at P2 ⊢
  have hPs : ∀ p ∈ [cs, cs2], OkP p := fun p hp => by
    simp at hp; rcases hp with rfl | rfl
    · exact P1
    · exact P2
  have hg2 : ((s1.push (.list [.str cs, .str cs2])).set "patterns" (.ref s1.sto.length)).loc "patterns" = some (.ref s1.sto.length) := St.get_same
  have hp2 : Pre st.sto ((s1.push (.list [.str cs, .str cs2])).set "patterns" (.ref s1.sto.length)).sto := hp1.push _
  have ho2 : ((s1.push (.list [.str cs, .str cs2])).set "patterns" (.ref s1.sto.length)).sto[s1.sto.length]? = some (.list ([cs, cs2].map .str)) := push_new
  generalize (s1.push (.list [.str cs, .str cs2])).set "patterns" (.ref s1.sto.length) = s2 at hg2 hp2 ho2 ⊢
  generalize s1.sto.length = kp at hg2 ho2
  have lays : (PyData.list ([] ++ [cs, cs2].map dueD)).canLay0 = true := by
    simp only [List.nil_append, List.map_cons, List.map_nil, PyData.canLay0, PyData.canLayAll0, lay_due P1, lay_due P2]; rfl
  show wComp "pattern" (wName "patterns") (wCall (lCons (wName "pattern") lNil) w_law_told) s2 (fun X st1 => wComp "pattern" (wName "patterns") (wCall (lCons (wName "pattern") lNil) w_law_due) st1 (fun Y st2 => ∃ n da db, n ≤ 100 ∧ dat st2.sto n X = some da ∧ dat st2.sto n Y = some db ∧ da.canLay0 = true ∧ db.canLay0 = true ∧ kSeq sNil (kFn st Q) (.ret (.bool (PyData.eqv da db))) st2))
  refine EVal.name hg2 _ ⟨kp, _, rfl, ho2, ?_⟩
  refine comp_due (fun p s K hp hx hK => go_call (LVal.cons (EVal.name hx) LVal.nil) (spec_told hp hK)) [cs, cs2] [] [] s2 hPs ho2 (by simp [dats]) (by simp) fun s3 L1 q1 q2 => ?_
  refine EVal.name (st := ⟨s2.loc, s3, s2.nb⟩) hg2 _ ⟨kp, _, rfl, q1.get ho2, ?_⟩
  refine comp_due (fun p s K hp hx hK => go_call (LVal.cons (EVal.name hx) LVal.nil) (spec_due hp.len hp.ok hK)) [cs, cs2] [] [] ⟨s2.loc, s3, s2.nb⟩ hPs (q1.get ho2) (by simp [dats]) (by simp) fun s4 L2 q3 q4 => ?_
  refine ⟨3, _, _, by decide, dat_grow q3 3 _ _ q2, q4, lays, lays, go_kret (go_fnret ?_)⟩
  rw [PySem.SeqAt.eqv_refl _ lays]
  exact h s4 ((hp2.trans q1).trans q3)
theorem ints_vrs {σ : List Addr} : ∀ {vs : List Value} {ns : List Int}, IntsAre vs ns → VRs σ (ns.map .int) vs
  | _, _, .nil => rfl
  | _, _, .cons n t h => ⟨.int n t, _, rfl, ⟨t, rfl⟩, ints_vrs h⟩
noncomputable def glOf (prog : Program) (w : World) (mg mb : Str → Option Value) (os : OsState) : Gl :=
  { prog := prog, w := w, K := pre.heap_1 w.params, mg := mg, mb := mb, P := 62, os := os,
    code := fun q o => if q.line = 90 then codeOf (Str.ofString "_translate" ++ Str.ofString ".<locals>." ++ Str.ofString "<genexpr>") o else codeOf (Str.ofString "_translate" ++ Str.ofString ".<locals>." ++ Str.ofString "<lambda>") o }
theorem gok {prog : Program} {w : World} {mg mb : Str → Option Value} {os : OsState} {h : Heap} (KX : (pre.heap_1 w.params).In h) (G : h.Ns mainGlobals mg) : GOk (glOf prog w mg mb os) where
  k := rfl
  P := rfl
  code := rfl
  b := by
    intro x hx
    simp only [List.mem_cons, List.not_mem_nil, or_false] at hx
    rcases hx with rfl | rfl | rfl | rfl | rfl | rfl <;> exact mg_none_of KX G (by kernel_rfl)
  g := by
    intro p hp
    simp only [List.mem_cons, List.not_mem_nil, or_false] at hp
    rcases hp with rfl | rfl | rfl | rfl | rfl | rfl | rfl | rfl | rfl | rfl | rfl | rfl <;> exact mg_of KX G (by kernel_rfl)
noncomputable def cxOf (G : Gl) (h : Heap) : Cx :=
  { G := G, base := hideAll h [G.P], L := h.objs.size, nb := 1, d := 4, cd := .ref 109, qual := Str.ofString "law" ++ ".<locals>.", pins := [], cl := [], ci := fun _ => none }
theorem no62 (w : World) : List.lookup 62 (pre.heap_1 w.params) = none := rfl
theorem tab62 {w : World} {h : Heap} (KX : (pre.heap_1 w.params).In h) : isCodeTable h 62 := ⟨66, _, _, KX 66 _ rfl, rfl, rfl, rfl⟩
theorem cx_ok {p : Program} {loose : List Str} {mean : ExcName → Option Value} {prog : Program} {w : World} {mg mb : Str → Option Value} {os : OsState} {h : Heap} (KX : (pre.heap_1 w.params).In h) (T : Top p loose mean mg mb h) (hT : h.get? 62 = some (tabObj #[])) :
    (cxOf (glOf prog w mg mb os) h).Ok where
  g := by obtain ⟨o, es, ep, ho, r⟩ := T.g; exact ⟨o, es, ep, hideAll_get _ ho (by show mainGlobals ∉ [62]; decide), r⟩
  b := by obtain ⟨o, es, ep, ho, r⟩ := T.b; exact ⟨o, es, ep, hideAll_get _ ho (by show builtinsNs ∉ [62]; decide), r⟩
  lim := by obtain ⟨mc, ⟨o, es, ep, ho, r⟩, h2⟩ := T.nolimit; exact ⟨mc, ⟨o, es, ep, hideAll_get _ ho (by show cStatics ∉ [62]; decide), r⟩, h2⟩
  k := fun a o e => hideAll_get _ (KX a o e) (by
    show a ∉ [62]
    intro q
    have : a = 62 := by simpa using q
    subst this
    have e' : List.lookup 62 (pre.heap_1 w.params) = some o := e
    rw [no62] at e'; cases e')
  boot := T.builtins
  bmain := by
    obtain ⟨bm, ob, h1, h2, h3, h4, r⟩ := T.bmain
    refine ⟨bm, ob, h1, h2, hideAll_get _ h3 ?_, h4, r⟩
    show bm ∉ [62]
    intro q
    have : bm = 62 := by simpa using q
    subst this
    rw [hT] at h3; cases h3; cases h4
  noP := hideAll_none _ (by show (62 : Nat) ∈ [62]; simp)
  PL := by
    show (62 : Nat) < (hideAll h [62]).objs.size
    rw [hideAll_size]; exact Heap.lt_size hT
theorem inv_in {p : Program} {loose : List Str} {mean : ExcName → Option Value} {prog : Program} {w : World} {mg mb : Str → Option Value} {s : Shared} (KX : (pre.heap_1 w.params).In s.heap) (T : Top p loose mean mg mb s.heap) (hT : s.heap.get? 62 = some (tabObj #[]))
    (hg : s.gens = #[]) {a : Addr} {vs : List Value} {ns : List Int} (hL : s.heap.IsList a vs.toArray) (hI : IntsAre vs ns) {h₁ : Heap} (hn : h₁.Ns s.heap.objs.size (fun y => ((["script"].map Str.ofString).zip [Value.ref a]).lookup y)) (hk : ∀ b o, s.heap.get? b = some o → h₁.get? b = some o) :
    Inv (cxOf (glOf prog w mg mb s.os) s.heap) [a] ⟨binds ["script"] [.ref 0], [.arg (ns.map .int)], 1⟩ h₁ s.gens s.os where
  ok := cx_ok KX T hT
  fr := ⟨_, ⟨hn, fun b o e => hk b o (of_hideAll _ e), Nat.le_of_eq (hideAll_size _ _)⟩, binds_locR (Xs := [.ref 0]) ⟨.ref a, [], rfl, ⟨a, rfl, rfl⟩, rfl⟩ rfl⟩
  len := rfl
  nd := by simp
  obj := fun k o e => by
    match k with
    | 0 =>
      have : o = .arg (ns.map .int) := by simpa using e.symm
      subst this
      obtain ⟨ob, h1, h2, n, h3⟩ := hL
      exact ⟨a, ob, rfl, hk _ _ h1, h2, vs, n, h3, ints_vrs hI⟩
    | k + 1 => simp at e
  ne := fun b hb => by
    have : b = a := by simpa using hb
    subst this
    obtain ⟨ob, h1, h2, n, h3⟩ := hL
    refine ⟨Nat.ne_of_lt (Heap.lt_size h1), fun q => ?_⟩
    have q' : b = 62 := q
    subst q'
    rw [hT] at h1; cases h1; cases h2
  own := fun k b hk' e => by
    match k with
    | 0 => exact absurd (show 1 ≤ 0 from hk') (by decide)
    | k + 1 => simp at e
  tab := ⟨#[], hk _ _ hT, trivial, fun pos c e => by cases e⟩
  gens := .of_eq hg
  eos := rfl
  enb := rfl
  pin := fun p hp => nomatch hp
  cel := fun x k e => nomatch e
theorem old_out {G : Gl} {σ : List Addr} {st : St} {h h' : Heap} {g : Array GenState} {os : OsState} (hP : G.P = 62) (hT : h.get? 62 = some (tabObj #[])) (hct : isCodeTable h 62) (I : Inv (cxOf G h) σ st h' g os) : OldK h h' := by
  obtain ⟨m, F, _⟩ := I.fr
  have key : ∀ b o, h.get? b = some o → b ≠ 62 → h'.get? b = some o := fun b o e hb => F.keep b o (hideAll_get _ e (by rw [hP]; simpa using hb))
  obtain ⟨ps, h1, _⟩ := I.tab
  have h1' : h'.get? 62 = some (tabObj ps) := by rw [← hP]; exact h1
  refine ⟨fun b o e => ?_, fun b o e => ?_⟩
  · by_cases hb : b = 62
    · subst hb
      rw [hT] at e; cases e
      exact .inr (.inl ⟨hct, rfl, #[], ps, rfl, by rw [h1']; simp [tabObj]⟩)
    · exact .inl (key b o e hb)
  · by_cases hb : b = 62
    · subst hb; exact ⟨_, h1'⟩
    · exact ⟨o, key b o e hb⟩
theorem law_call {p : Program} {loose : List Str} {mean : ExcName → Option Value} {prog : Program} {w : World} {mg mb : Str → Option Value} {s : Shared} (KX : (pre.heap_1 w.params).In s.heap) (T : Top p loose mean mg mb s.heap) (hT : s.heap.get? 62 = some (tabObj #[]))
    (hg : s.gens = #[]) {a : Addr} {vs : List Value} {ns : List Int} (hL : s.heap.IsList a vs.toArray) (hI : IntsAre vs ns) (hl : ns.length ≤ 1000) :
    wpAny (model prog w) callerA (call (.ref 110) [.ref a]) (fun v s' => v = .bool true ∧ OldK s.heap s'.heap ∧ s'.os = s.os ∧ AllBare s'.gens) Bot s := by
  have hG := gok (prog := prog) (mb := mb) (os := s.os) KX T.g
  have key := spec_law (is := ns) (k := 0) (st := ⟨fun _ => none, [.arg (ns.map .int)], 0⟩) (Q := fun X _ => X = .bool true) rfl hl (fun _ _ => rfl)
  obtain ⟨_, hb⟩ := key
  refine wpAny_mono (top_law (C' := cxOf (glOf prog w mg mb s.os) s.heap) hG rfl (σ := [a]) KX T.nolimit rfl rfl rfl rfl rfl (by decide) ⟨rfl, by show 1 + 300 + 4 ≤ 900; decide, by show 4 + 20 * 4 ≤ 9000; decide⟩ ⟨by show 1 + 300 + 5 ≤ 900; decide, by show 4 + 100 ≤ 9000; decide⟩
    (fun h₁ hn hk => inv_in KX T hT hg hL hI hn hk) hb) (fun v s' h => ?_) fun _ _ e => e
  obtain ⟨FL, σ', st2, I, hq, hv⟩ := h
  have hv' : v = .bool true := by
    cases FL with
    | ret X => have : X = .bool true := hq; subst this; exact hv
    | next => have : V.none = .bool true := hq; cases this
    | brk => have : V.none = .bool true := hq; cases this
    | cont => have : V.none = .bool true := hq; cases this
  exact ⟨hv', old_out rfl hT (tab62 KX) I, I.eos, I.gens⟩
theorem left_o : LeftO rowW.prog view loose xt H.obs H.val 3552 :=
  byRow2 "special-get-raises" (P := Leaf) (byRow2 "comprehension-iter-twice" (P := fun w => Leaf (w.withFollow "special-get-raises" false)) leaf1 leaf3) (byRow2 "comprehension-iter-twice" (P := fun w => Leaf (w.withFollow "special-get-raises" true)) leaf2 leaf4)
end Mine
set_option maxHeartbeats 0 in
theorem PySem.Challenge.cw_ij0101_01_holds : PySem.Challenge.rw_ij0101_01.Holds := by
  w_on
  o_law
  refine holds_open (q := Mine.view) (loose := Mine.loose) (Xt := Mine.xt) (XP := XL Mine.view []) (Yf := Hook.obs Mine.H) (Ya := Hook.val Mine.H) (YP := Hook.says Mine.H) (N := 3552) Mine.left_o (Hook.of Mine.H) (Hook.keeps Mine.H) (fun s e => xl_of s (Bool.and_eq_true_iff.mp e).1) XL.keeps (by rfl) (by rfl) (by rfl) (fun s e => recFacts_of (Bool.and_eq_true_iff.mp e).2) (by rfl) (by first | assumption | decide +kernel) (by decide +kernel) ⟨rfl, rfl, rfl, rfl, rfl, by decide +kernel⟩ ?hw ?hc
  case hw => w_witness2
  case hc =>
    intro w s₀ s₁ mg mb G Y fa o pm cd doc dV kV ho hd' hcd hD hmg hg args vals as hpre hlay hrd hwl hlo
    have KX := km_in_of Y
    have hT := km_tabs_of Y 62 (by simp)
    have T := G.T
    clear ho hd' hcd hD
    have hfa : fa = 110 := by
      have e := mg_of (n := Str.ofString "law") (v := .ref 110) KX T.g (by kernel_rfl)
      have e2 : mg (Str.ofString "law") = some (.ref fa) := hmg
      rw [e2] at e; cases e; rfl
    subst hfa
    clear hmg
    wrow_args hpre hlay hrd hwl hlo
    refine wpAny_mono (Mine.law_call KX T hT hg (by assumption) (by assumption) (by omega)) (fun v s' h => ?_) fun _ _ e => e.elim
    obtain ⟨rfl, h1, h2, h3⟩ := h
    exact ⟨.inl ⟨_, .bool true, [], rfl, raisesW_false (by wrow_none_raised), .bool true, postW_of (by wrow_shape) (by wtm_val) (by w_fin), unshared_nil⟩, h1, h2, h3⟩
