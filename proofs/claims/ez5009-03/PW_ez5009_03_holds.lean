import PyProof.Rows.All
import Wide.All
import OpenK.AllK
import Wide.FinOn
import PySem.Challenge.RW_ez5009_03
set_option Elab.async false
section
open PySem PySem.W PyProof.Rows
set_option Elab.async false
namespace Mine

/-! ## lists side by side -/
def All2 {α β : Type} (R : α → β → Prop) : List α → List β → Prop
  | [], [] => True
  | a :: as, b :: bs => R a b ∧ All2 R as bs
  | _, _ => False
namespace All2
variable {α β : Type} {R S : α → β → Prop}
theorem nil : All2 R [] [] := trivial
theorem length : ∀ {as : List α} {bs : List β}, All2 R as bs → as.length = bs.length
  | [], [], _ => rfl
  | [], _ :: _, h => h.elim
  | _ :: _, [], h => h.elim
  | _ :: as, _ :: bs, h => congrArg (· + 1) (length (as := as) (bs := bs) h.2)
theorem get : ∀ {as : List α} {bs : List β}, All2 R as bs → ∀ {i : Nat} {a : α}, as[i]? = some a → ∃ b, bs[i]? = some b ∧ R a b
  | [], [], _, _, _, e => by simp at e
  | [], _ :: _, h, _, _, _ => h.elim
  | _ :: _, [], h, _, _, _ => h.elim
  | x :: as, y :: bs, h, 0, a, e => by simp at e; subst e; exact ⟨y, rfl, h.1⟩
  | x :: as, y :: bs, h, i + 1, a, e => by
    have := get (as := as) (bs := bs) h.2 (i := i) (a := a) (by simpa using e)
    simpa using this
theorem get' : ∀ {as : List α} {bs : List β}, All2 R as bs → ∀ {i : Nat} {b : β}, bs[i]? = some b → ∃ a, as[i]? = some a ∧ R a b
  | [], [], _, _, _, e => by simp at e
  | [], _ :: _, h, _, _, _ => h.elim
  | _ :: _, [], h, _, _, _ => h.elim
  | x :: as, y :: bs, h, 0, a, e => by simp at e; subst e; exact ⟨x, rfl, h.1⟩
  | x :: as, y :: bs, h, i + 1, a, e => by
    have := get' (as := as) (bs := bs) h.2 (i := i) (b := a) (by simpa using e)
    simpa using this
theorem imp (f : ∀ a b, R a b → S a b) : ∀ {as : List α} {bs : List β}, All2 R as bs → All2 S as bs
  | [], [], _ => trivial
  | [], _ :: _, h => h.elim
  | _ :: _, [], h => h.elim
  | _ :: _, _ :: _, h => ⟨f _ _ h.1, imp f h.2⟩
theorem append : ∀ {as : List α} {bs : List β} {cs : List α} {ds : List β}, All2 R as bs → All2 R cs ds → All2 R (as ++ cs) (bs ++ ds)
  | [], [], _, _, _, k => k
  | [], _ :: _, _, _, h, _ => h.elim
  | _ :: _, [], _, _, h, _ => h.elim
  | _ :: _, _ :: _, _, _, h, k => ⟨h.1, append h.2 k⟩
theorem set : ∀ {as : List α} {bs : List β}, All2 R as bs → ∀ (i : Nat) {a : α} {b : β}, R a b → All2 R (as.set i a) (bs.set i b)
  | [], [], _, _, _, _, _ => trivial
  | [], _ :: _, h, _, _, _, _ => h.elim
  | _ :: _, [], h, _, _, _, _ => h.elim
  | _ :: _, _ :: _, h, 0, _, _, r => ⟨r, h.2⟩
  | _ :: _, _ :: _, h, i + 1, _, _, r => ⟨h.1, set h.2 i r⟩
theorem set_left : ∀ {as : List α} {bs : List β}, All2 R as bs → ∀ (i : Nat) {a : α} {b : β}, bs[i]? = some b → R a b → All2 R (as.set i a) bs
  | [], [], _, _, _, _, _, _ => trivial
  | [], _ :: _, h, _, _, _, _, _ => h.elim
  | _ :: _, [], h, _, _, _, _, _ => h.elim
  | _ :: _, _ :: _, h, 0, _, _, e, r => ⟨by simp at e; subst e; exact r, h.2⟩
  | _ :: _, _ :: _, h, i + 1, _, _, e, r => ⟨h.1, set_left h.2 i (by simpa using e) r⟩
theorem take : ∀ {as : List α} {bs : List β}, All2 R as bs → ∀ n, All2 R (as.take n) (bs.take n)
  | [], [], _, n => by simp [All2]
  | [], _ :: _, h, _ => h.elim
  | _ :: _, [], h, _ => h.elim
  | _ :: _, _ :: _, _, 0 => trivial
  | _ :: _, _ :: _, h, n + 1 => ⟨h.1, take h.2 n⟩
theorem drop : ∀ {as : List α} {bs : List β}, All2 R as bs → ∀ n, All2 R (as.drop n) (bs.drop n)
  | [], [], _, n => by simp [All2]
  | [], _ :: _, h, _ => h.elim
  | _ :: _, [], h, _ => h.elim
  | _ :: _, _ :: _, h, 0 => h
  | _ :: _, _ :: _, h, n + 1 => drop h.2 n
theorem reverse : ∀ {as : List α} {bs : List β}, All2 R as bs → All2 R as.reverse bs.reverse
  | [], [], _ => trivial
  | [], _ :: _, h => h.elim
  | _ :: _, [], h => h.elim
  | a :: as, b :: bs, h => by rw [List.reverse_cons, List.reverse_cons]; exact append (reverse h.2) ⟨h.1, trivial⟩
theorem cons_inv {a : α} {as : List α} {bs : List β} (h : All2 R (a :: as) bs) : ∃ b bs', bs = b :: bs' ∧ R a b ∧ All2 R as bs' := by
  cases bs with
  | nil => exact h.elim
  | cons b bs => exact ⟨b, bs, rfl, h.1, h.2⟩
theorem nil_inv {bs : List β} (h : All2 R [] bs) : bs = [] := by
  cases bs with
  | nil => rfl
  | cons b bs => exact h.elim
theorem of_get : ∀ {as : List α} {bs : List β}, as.length = bs.length → (∀ (i : Nat) (a : α) (b : β), as[i]? = some a → bs[i]? = some b → R a b) → All2 R as bs
  | [], [], _, _ => trivial
  | [], _ :: _, h, _ => by simp at h
  | _ :: _, [], h, _ => by simp at h
  | x :: as, y :: bs, h, f => ⟨f 0 x y rfl rfl, of_get (by simpa using h) fun i a b ha hb => f (i + 1) a b (by simpa using ha) (by simpa using hb)⟩
end All2

/-! ## values, objects, the ledger -/
inductive V where
  | none | bool (b : Bool) | int (i : Int) | ref (n : Nat) | glob (a : Addr) | bi (id : String) | ty (n : String)

inductive O where
  | list (vs : List V) | tup (vs : List V) | dict (kvs : List (Int × V)) (ep : Option Nat) | rng (a b : Int) | ns (fs : List (Nat × V)) | inst (C : Addr) (d : Nat) | cell (v : Option V)

abbrev St := List O

def VR (ρ : List Addr) : V → Value → Prop
  | .none, .none => True
  | .bool b, .bool c => b = c
  | .int i, .int j _ => i = j
  | .ref n, .ref a => ρ[n]? = some a
  | .glob a, .ref b => a = b
  | .bi i, .builtin j => i = j
  | .ty n, .type k => n = k
  | _, _ => False

theorem VR.none_inv {ρ v} (h : VR ρ .none v) : v = .none := by cases v <;> first | rfl | exact h.elim
theorem VR.bool_inv {ρ b v} (h : VR ρ (.bool b) v) : v = .bool b := by cases v <;> first | exact h.elim | (have h : b = _ := h; rw [h])
theorem VR.int_inv {ρ i v} (h : VR ρ (.int i) v) : ∃ t, v = .int i t := by cases v <;> first | exact h.elim | (have h : i = _ := h; rw [h]; exact ⟨_, rfl⟩)
theorem VR.ref_inv {ρ n v} (h : VR ρ (.ref n) v) : ∃ a, v = .ref a ∧ ρ[n]? = some a := by cases v <;> first | exact h.elim | exact ⟨_, rfl, h⟩
theorem VR.glob_inv {ρ a v} (h : VR ρ (.glob a) v) : v = .ref a := by cases v <;> first | exact h.elim | (have h : a = _ := h; rw [h])
theorem VR.bi_inv {ρ a v} (h : VR ρ (.bi a) v) : v = .builtin a := by cases v <;> first | exact h.elim | (have h : a = _ := h; rw [h])
theorem VR.ty_inv {ρ a v} (h : VR ρ (.ty a) v) : v = .type a := by cases v <;> first | exact h.elim | (have h : a = _ := h; rw [h])
theorem pre_get {ρ ρ' : List Addr} (p : ρ <+: ρ') {n : Nat} {a : Addr} (h : ρ[n]? = some a) : ρ'[n]? = some a := by
  obtain ⟨t, rfl⟩ := p
  rw [List.getElem?_append_left (List.getElem?_eq_some_iff.mp h).1]; exact h
theorem VR.mono {ρ ρ' : List Addr} (p : ρ <+: ρ') : ∀ {x v}, VR ρ x v → VR ρ' x v := by
  intro x v h
  cases x <;> cases v <;> first | exact h | exact h.elim | exact pre_get p h

/-- the names of attributes -/
def nm : Nat → Str
  | 0 => "stream_id" | 1 => "_weight" | 2 => "children" | 3 => "parent" | 4 => "child_queue" | 5 => "active"
  | 6 => "last_weight" | 7 => "_deficit" | 8 => "_root_stream" | 9 => "_streams" | 10 => "_maximum_streams" | _ => "weight"
def nmN : Nat := 11
theorem nm_inj : ∀ i, i < nmN → ∀ j, j < nmN → nm i = nm j → i = j := by decide +kernel

abbrev Led := List (Addr × Obj)
def ats (l : Led) : List Addr := l.map (·.1)

section
variable (prog : Program) (w : World)
def EntR (ρ : List Addr) (p : Nat × V) (e : DictEntry) : Prop := p.1 < nmN ∧ (∃ t, e.key = .str (nm p.1) t) ∧ VR ρ p.2 e.val
def OptR (ρ : List Addr) : Option V → Option Value → Prop
  | none, none => True
  | some x, some v => VR ρ x v
  | _, _ => False
def KvR (ρ : List Addr) (p : Int × V) (q : Int × Value) : Prop := p.1 = q.1 ∧ VR ρ p.2 q.2
def ObjR (ρ : List Addr) : O → Obj → Prop
  | .list vs, o => ∃ its n, o = listOf (List.toArray its) n ∧ All2 (VR ρ) vs its ∧ vs.length ≤ sizeLine
  | .tup vs, o => ∃ its n, o = { cls := .type "tuple", data := .seq (List.toArray its) n } ∧ All2 (VR ρ) vs its ∧ vs.length ≤ sizeLine
  | .dict kvs ep, o => ∃ kv', Obj.IsDictOf (intKind prog w) o kv' ∧ All2 (KvR ρ) kvs kv' ∧ kvs.length ≤ sizeLine ∧ (∀ e, ep = some e → ∃ es, o.data = .dict es e)
  | .rng a b, o => ∃ t u v : Tok, o = { cls := .type "range", dict := none, data := .fields #[.int a t, .int b u, .int 1 v], slots := #[] }
  | .ns fs, o => ∃ es n, o = dictOf es n ∧ All2 (EntR ρ) fs es
  | .inst C d, o => ∃ a, ρ[d]? = some a ∧ o = instObj C a
  | .cell v, o => ∃ v', o.data = .cell v' ∧ OptR ρ v v'
theorem OptR.mono {ρ ρ' : List Addr} (p : ρ <+: ρ') : ∀ {x v}, OptR ρ x v → OptR ρ' x v
  | none, none, _ => trivial
  | none, some _, h => h.elim
  | some _, none, h => h.elim
  | some _, some _, h => VR.mono p h
variable {prog w}
theorem ObjR.mono {ρ ρ' : List Addr} (p : ρ <+: ρ') : ∀ {x o}, ObjR prog w ρ x o → ObjR prog w ρ' x o
  | .list _, _, ⟨its, n, e, h, z⟩ => ⟨its, n, e, h.imp fun _ _ => VR.mono p, z⟩
  | .tup _, _, ⟨its, n, e, h, z⟩ => ⟨its, n, e, h.imp fun _ _ => VR.mono p, z⟩
  | .dict _ _, _, ⟨kv, e, h, z⟩ => ⟨kv, e, h.imp fun _ _ k => ⟨k.1, k.2.mono p⟩, z⟩
  | .rng _ _, _, h => h
  | .ns _, _, ⟨es, n, e, h⟩ => ⟨es, n, e, h.imp fun _ _ k => ⟨k.1, k.2.1, k.2.2.mono p⟩⟩
  | .inst _ _, _, ⟨a, h, e⟩ => ⟨a, pre_get p h, e⟩
  | .cell _, _, ⟨v, e, h⟩ => ⟨v, e, OptR.mono p h⟩
end

/-! ## the ledger and the heap -/
theorem mem_of_get {α} {l : List α} {i : Nat} {x : α} (h : l[i]? = some x) : x ∈ l := List.mem_of_getElem? h
theorem nodup_key {l : Led} (nd : (l.map (·.1)).Nodup) : ∀ {i j : Nat} {a o o'}, l[i]? = some (a, o) → l[j]? = some (a, o') → i = j := by
  intro i j a o o' hi hj
  have h1 : (l.map (·.1))[i]? = some a := by rw [List.getElem?_map, hi]; rfl
  have h2 : (l.map (·.1))[j]? = some a := by rw [List.getElem?_map, hj]; rfl
  obtain ⟨li, e1⟩ := List.getElem?_eq_some_iff.mp h1
  obtain ⟨lj, e2⟩ := List.getElem?_eq_some_iff.mp h2
  exact (List.getElem_inj nd).mp (e1.trans e2.symm)
theorem upd_at : ∀ {l : Led} (_ : (l.map (·.1)).Nodup) {i : Nat} {a o o'}, l[i]? = some (a, o) → Upd a o o' l (l.set i (a, o'))
  | [], _, _, _, _, _, h => by simp at h
  | x :: l, nd, 0, a, o, o', h => by
    simp at h; subst h
    rw [List.map_cons, List.nodup_cons] at nd
    exact Upd.head fun p hp e => nd.1 (List.mem_map.mpr ⟨p, hp, e⟩)
  | x :: l, nd, i + 1, a, o, o', h => by
    rw [List.map_cons, List.nodup_cons] at nd
    have h' : l[i]? = some (a, o) := by simpa using h
    exact Upd.tail (fun e => nd.1 (List.mem_map.mpr ⟨_, mem_of_get h', e.symm⟩)) (upd_at nd.2 h')
theorem updF_at : ∀ {l : Led} (_ : (l.map (·.1)).Nodup) {i : Nat} {a o}, l[i]? = some (a, o) → UpdF a o l (fun o' => l.set i (a, o'))
  | [], _, _, _, _, h => by simp at h
  | x :: l, nd, 0, a, o, h => by
    simp at h; subst h
    rw [List.map_cons, List.nodup_cons] at nd
    exact UpdF.head fun p hp e => nd.1 (List.mem_map.mpr ⟨p, hp, e⟩)
  | x :: l, nd, i + 1, a, o, h => by
    rw [List.map_cons, List.nodup_cons] at nd
    have h' : l[i]? = some (a, o) := by simpa using h
    exact UpdF.tail (fun e => nd.1 (List.mem_map.mpr ⟨_, mem_of_get h', e.symm⟩)) (updF_at nd.2 h')
theorem set_keys {l : Led} {i : Nat} {a o o'} (h : l[i]? = some (a, o)) : (l.set i (a, o')).map (·.1) = l.map (·.1) := by
  rw [List.map_set]
  refine List.ext_getElem? fun j => ?_
  rw [List.getElem?_set]
  split
  · rename_i e; subst e
    rw [List.getElem?_map, h]
    simp [(List.getElem?_eq_some_iff.mp h).1]
  · rfl

structure Mem (prog : Program) (w : World) (h₀ : Heap) (L : Addr) (m : Str → Option Value) (aux led : Led) (σ : St) (h : Heap) : Prop where
  fr : Fr h₀ L h m
  nw : News h₀ L h (led ++ aux)
  nd : ((led ++ aux).map (·.1)).Nodup
  rel : All2 (fun (p : Addr × Obj) o => ObjR prog w (ats led) o p.2) led σ

namespace Mem
variable {prog : Program} {w : World} {h₀ : Heap} {L : Addr} {m : Str → Option Value} {aux led : Led} {σ : St} {h : Heap}
theorem at_ (M : Mem prog w h₀ L m aux led σ h) {n : Nat} {o : O} (e : σ[n]? = some o) : ∃ a ob, led[n]? = some (a, ob) ∧ ObjR prog w (ats led) o ob := by
  obtain ⟨⟨a, ob⟩, e', r⟩ := M.rel.get' e
  exact ⟨a, ob, e', r⟩
theorem ats_of {n : Nat} {a : Addr} {ob : Obj} (e : led[n]? = some (a, ob)) : (ats led)[n]? = some a := by
  show (led.map (·.1))[n]? = _
  rw [List.getElem?_map, e]; rfl
theorem of_ats {n : Nat} {a : Addr} (e : (ats led)[n]? = some a) : ∃ ob, led[n]? = some (a, ob) := by
  have e : (led.map (·.1))[n]? = _ := e
  rw [List.getElem?_map] at e
  cases h : led[n]? with
  | none => rw [h] at e; cases e
  | some p => obtain ⟨b, ob⟩ := p; rw [h] at e; cases e; exact ⟨ob, rfl⟩
theorem left {n : Nat} {p} (e : led[n]? = some p) : (led ++ aux)[n]? = some p := by
  rw [List.getElem?_append_left (List.getElem?_eq_some_iff.mp e).1]; exact e
theorem get (M : Mem prog w h₀ L m aux led σ h) {n : Nat} {a : Addr} {ob : Obj} (e : led[n]? = some (a, ob)) : h.get? a = some ob :=
  (M.nw (a, ob) (List.mem_append_left _ (mem_of_get e))).1
/-- a value that stands for object n: where it lies -/
theorem deref (M : Mem prog w h₀ L m aux led σ h) {n : Nat} {o : O} {v : Value} (e : σ[n]? = some o) (r : VR (ats led) (.ref n) v) :
    ∃ a ob, v = .ref a ∧ led[n]? = some (a, ob) ∧ ObjR prog w (ats led) o ob := by
  obtain ⟨a, rfl, e'⟩ := r.ref_inv
  obtain ⟨a', ob, h1, h2⟩ := M.at_ e
  have := ats_of h1
  rw [e'] at this; cases this
  exact ⟨a, ob, rfl, h1, h2⟩
theorem set (M : Mem prog w h₀ L m aux led σ h) {n : Nat} {a : Addr} {ob ob' : Obj} {o' : O} {h' : Heap} (e : led[n]? = some (a, ob))
    (F : Fr h₀ L h' m) (N : News h₀ L h' ((led ++ aux).set n (a, ob'))) (r : ObjR prog w (ats led) o' ob') :
    Mem prog w h₀ L m aux (led.set n (a, ob')) (σ.set n o') h' ∧ ats (led.set n (a, ob')) = (ats led) := by
  have ln := (List.getElem?_eq_some_iff.mp e).1
  have es : (led ++ aux).set n (a, ob') = led.set n (a, ob') ++ aux := List.set_append_left _ _ ln
  have ek : ats (led.set n (a, ob')) = (ats led) := set_keys e
  refine ⟨⟨F, es ▸ N, ?_, ?_⟩, ek⟩
  · rw [← es, set_keys (left e)]; exact M.nd
  · rw [ek]; exact M.rel.set n r
theorem alloc (M : Mem prog w h₀ L m aux led σ h) {a : Addr} {ob : Obj} {o : O} {h' : Heap}
    (F : Fr h₀ L h' m) (N : News h₀ L h' ((a, ob) :: (led ++ aux))) (lt : ∀ p ∈ led ++ aux, p.1 < a) (r : ObjR prog w ((ats led) ++ [a]) o ob) :
    Mem prog w h₀ L m aux (led ++ [(a, ob)]) (σ ++ [o]) h' ∧ (ats led) <+: ats (led ++ [(a, ob)]) := by
  have ek : ats (led ++ [(a, ob)]) = (ats led) ++ [a] := by show List.map _ _ = _; rw [List.map_append]; rfl
  have pr : (ats led) <+: ats (led ++ [(a, ob)]) := ek ▸ List.prefix_append _ _
  refine ⟨⟨F, fun p hp => N p ?_, ?_, ?_⟩, pr⟩
  · simp only [List.mem_append, List.mem_cons, List.not_mem_nil, or_false] at hp ⊢
    rcases hp with (h | h) | h <;> simp [h]
  · have nd := M.nd
    rw [List.append_assoc]
    rw [List.map_append] at nd ⊢
    show (List.map _ led ++ (a :: aux.map _)).Nodup
    rw [List.nodup_append] at nd ⊢
    refine ⟨nd.1, List.nodup_cons.mpr ⟨fun hm => ?_, nd.2.1⟩, fun x hx y hy => ?_⟩
    · obtain ⟨p, hp, rfl⟩ := List.mem_map.mp hm
      exact Nat.lt_irrefl _ (lt p (List.mem_append_right _ hp))
    · rcases List.mem_cons.mp hy with rfl | hy
      · intro e; obtain ⟨p, hp, rfl⟩ := List.mem_map.mp hx
        exact Nat.lt_irrefl _ (e ▸ lt p (List.mem_append_left _ hp))
      · exact nd.2.2 x hx y hy
  · rw [ek]
    exact (M.rel.imp fun _ _ r => r.mono (List.prefix_append _ _)).append ⟨r, trivial⟩
/-- the same ledger in another heap -/
theorem same (M : Mem prog w h₀ L m aux led σ h) {h' : Heap} (F : Fr h₀ L h' m) (N : News h₀ L h' (led ++ aux)) : Mem prog w h₀ L m aux led σ h' := ⟨F, N, M.nd, M.rel⟩
/-- a heap that keeps all that was -/
theorem keeps (M : Mem prog w h₀ L m aux led σ h) {h' : Heap} (k : ∀ b o, h.get? b = some o → h'.get? b = some o) : Mem prog w h₀ L m aux led σ h' :=
  ⟨M.fr.keeps k, fun p hp => ⟨k _ _ (M.nw p hp).1, (M.nw p hp).2⟩, M.nd, M.rel⟩
end Mem
end Mine

end
section
open PySem PySem.W PyProof.Rows PySem.Calls
set_option Elab.async false
namespace Mine

structure Ctx where
  prog : Program
  w : World
  K : Frag
  mg : Str → Option Value
  mb : Str → Option Value
  scr : Option (Addr × List Int)

structure Fm where
  env : Env
  fenv : Env
  L : Addr
  outer : List Env
  h₀ : Heap
  base : Heap
  A₀ : Around
  xs : List Str
  cs : List Str

/-- what stands of an activation -/
structure FmOk (C : Ctx) (f : Fm) : Prop where
  X : C.K.In f.h₀
  g : f.h₀.Ns mainGlobals C.mg
  b : f.h₀.Ns builtinsNs C.mb
  nolimit : f.h₀.NoLimit
  mods : ∃ o, f.h₀.get? sysModules = some o
  scr : ∀ a ns, C.scr = some (a, ns) → ∃ its : List Value, f.h₀.IsList a its.toArray ∧ IntsAre its ns
  below : Below f.A₀ f.base f.outer f.h₀
  frame : f.fenv.frame = some f.L
  kind : f.fenv.scope.kind = .function
  eframe : f.env.frame = some f.L
  ekind : f.env.scope.kind = .function
  eglob : f.env.globals = mainGlobals
  ebi : f.env.builtins = builtinsNs
  xl : ∀ x ∈ f.xs, f.env.kindOf x = some .local
  xn : f.xs.Nodup
  cl : ∀ x ∈ f.cs, f.env.kindOf x = some .cell
  hid : ∀ x ∈ f.xs ++ f.cs, (x == ("__debug__" : Str)) = false

structure AOk (f : Fm) (n : Nat) (A : Around) : Prop where
  frames : A.frames = some (f.fenv :: f.outer)
  handled : A.handled = none
  depth : A.depth + 2 * n < recursionLimit
  units : A.units + 16 * n + 200 ≤ 9900

theorem AOk.cline {f n A} (a : AOk f n A) : A.units + 100 < cLine := by rw [cLine_is]; have := a.units; omega
theorem AOk.room {f n A} (a : AOk f n A) : A.depth < recursionLimit := by have := a.depth; omega
theorem AOk.le {f n n' A} (a : AOk f n A) (h : n' ≤ n) : AOk f n' A := ⟨a.frames, a.handled, by have := a.depth; omega, by have := a.units; omega⟩

/-- the evaluator's names: slots, and the cells' numbers -/
structure Le where
  lo : List (Option V)
  cl : List Nat

def nsObj (od : Obj) (m : Str → Option Value) : Prop := ∃ es ep, od.data = .dict es ep ∧ StrKeys es ∧ ∀ name, nsFind es name = m name
inductive LocAt (f : Fm) (mF : Str → Option Value) (aux : Led) (m : Str → Option Value) : Prop
  | fn (e : f.env.locals = f.L) (e' : m = mF)
  | cp {od : Obj} {rest : Led} (e : aux = (f.env.locals, od) :: rest) (h : nsObj od m)

structure LeR (f : Fm) (ρ : List Addr) (m : Str → Option Value) (le : Le) : Prop where
  lo : All2 (fun x v => OptR ρ v (m x)) f.xs le.lo
  cl : All2 (fun x n => ∃ a, f.env.cells.lookup x = some a ∧ ρ[n]? = some a) f.cs le.cl

theorem LeR.mono {f ρ ρ' m le} (p : ρ <+: ρ') (h : LeR f ρ m le) : LeR f ρ' m le :=
  ⟨h.lo.imp fun _ _ r => OptR.mono p r, h.cl.imp fun _ _ ⟨a, h1, h2⟩ => ⟨a, h1, pre_get p h2⟩⟩

inductive X where
  | index | dead | key
inductive Rs (α : Type) where
  | ok (a : α) (σ : St)
  | exc (x : X) (σ : St)

/-- an exception in flight (filled in elsewhere) -/
def RaisedAt (_C : Ctx) (_f : Fm) (_mF : Str → Option Value) (_aux _led : Led) (_σ : St) (_x : X) (_e : Addr) (_h' : Heap) : Prop := False

section
variable (C : Ctx) (f : Fm)
abbrev MemC (mF : Str → Option Value) (aux led : Led) (σ : St) (h : Heap) : Prop := Mem C.prog C.w f.h₀ f.L mF aux led σ h

def PostE {α β : Type} (R : List Addr → α → β → Prop) (mF : Str → Option Value) (aux led : Led) (s : Shared) (Q : β → Shared → Prop) (E : Value → Shared → Prop) : Rs α → Prop
  | .ok a σ' => ∀ led' h' tk b, ats led <+: ats led' → MemC C f mF aux led' σ' h' → R (ats led') a b → Q b { s with heap := h', toks := tk }
  | .exc x σ' => ∀ led' h' tk e, ats led <+: ats led' → RaisedAt C f mF aux led' σ' x e h' → E (.ref e) { s with heap := h', toks := tk }

/-- a tree that does what the evaluator says -/
def Does {α β : Type} (R : List Addr → α → β → Prop) (A : Around) (mF : Str → Option Value) (aux led : Led) (σ : St) (t : Sem β) (r : Rs α) : Prop :=
  ∀ s Q E, MemC C f mF aux led σ s.heap → PostE C f R mF aux led s Q E r → wpAny (model C.prog C.w) A t Q E s

def EvT {α β : Type} (R : List Addr → α → β → Prop) (n : Nat) (t : Sem β) (le : Le) (σ : St) (r : Rs α) : Prop :=
  ∀ mF m aux led A, AOk f n A → LocAt f mF aux m → LeR f (ats led) m le → Does C f R A mF aux led σ t r

abbrev EvE (n : Nat) (e : Expr) (le : Le) (σ : St) (r : Rs V) : Prop := EvT C f VR n (eval e f.env) le σ r
end

/-! ## putting steps together -/
def bindR {α β : Type} : Option (Rs α) → (α → St → Option (Rs β)) → Option (Rs β)
  | some (.ok a σ), k => k a σ
  | some (.exc x σ), _ => some (.exc x σ)
  | none, _ => none

section
variable {C : Ctx} {f : Fm} {α β γ δ : Type} {R : List Addr → α → β → Prop} {R' : List Addr → γ → δ → Prop}
theorem PostE.imp {mF aux led s Q E} {r : Rs α} {Q' : β → Shared → Prop} (h : PostE C f R mF aux led s Q E r) (k : ∀ b s', Q b s' → Q' b s') : PostE C f R mF aux led s Q' E r := by
  cases r with
  | ok a σ => exact fun led' h' tk b p M r => k _ _ (h led' h' tk b p M r)
  | exc x σ => exact h
theorem PostE.step {mF aux led s Q E} {r : Rs γ} {led1 : Led} {h1 : Heap} {tk1 : Nat} (P : PostE C f R' mF aux led s Q E r) (p : ats led <+: ats led1) :
    PostE C f R' mF aux led1 { s with heap := h1, toks := tk1 } Q E r := by
  cases r with
  | ok a σ => exact fun led' h' tk b p' M r => P led' h' tk b (p.trans p') M r
  | exc x σ => exact fun led' h' tk e p' M => P led' h' tk e (p.trans p') M

theorem compose {A : Around} {mF aux led} {σ : St} {s : Shared} {t1 : Sem β} {m : Option (Rs α)} {k : α → St → Option (Rs γ)} {r : Rs γ} {Q : δ → Shared → Prop} {E : Value → Shared → Prop} {Q1 : β → Shared → Prop}
    (h : bindR m k = some r) (h1 : ∀ r1, m = some r1 → Does C f R A mF aux led σ t1 r1) (M : MemC C f mF aux led σ s.heap) (P : PostE C f R' mF aux led s Q E r)
    (hk : ∀ a σ1 led1 h1 tk1 b, k a σ1 = some r → ats led <+: ats led1 → MemC C f mF aux led1 σ1 h1 → R (ats led1) a b →
      PostE C f R' mF aux led1 { s with heap := h1, toks := tk1 } Q E r → Q1 b { s with heap := h1, toks := tk1 }) :
    wpAny (model C.prog C.w) A t1 Q1 E s := by
  cases m with
  | none => cases h
  | some r1 =>
    refine h1 r1 rfl s Q1 E M ?_
    cases r1 with
    | ok a σ1 => exact fun led' h' tk b p M' r' => hk a σ1 led' h' tk b h p M' r' (P.step p)
    | exc x σ1 => cases h; exact P
/-- what is there at once -/
theorem PostE.now {mF aux led} {σ : St} {s : Shared} {a : α} {b : β} {Q E} (P : PostE C f R mF aux led s Q E (.ok a σ)) (M : MemC C f mF aux led σ s.heap) (r : R (ats led) a b) (tk : Nat) :
    Q b { s with toks := tk } := P led s.heap tk b (List.prefix_refl _) M r
end
end Mine

end
section
open PySem PySem.W PyProof.Rows PySem.Calls PySem.Spec PyProof.V PySem.SeqAt
set_option linter.unusedSimpArgs false
set_option autoImplicit false
set_option Elab.async false
namespace Mine

abbrev EF := Le → St → Option (Rs V)
abbrev EFb := Le → St → Option (Rs Bool)
abbrev EFs := Le → St → Option (Rs (List V))

section
variable (C : Ctx) (f : Fm) (n : Nat)
structure SE (e : Expr) (ev : EF) : Prop where
  p : ∀ le σ r, ev le σ = some r → EvE C f n e le σ r
structure SB (e : Expr) (ev : EFb) : Prop where
  p : ∀ le σ r, ev le σ = some r → EvT C f (fun _ a b => a = b) n (isTrue e f.env (eval e f.env)) le σ r
structure SEs (pos : Pos) (es : List Expr) (ev : EFs) : Prop where
  p : ∀ le σ r, ev le σ = some r → EvT C f (fun ρ => All2 (VR ρ)) n (spliced (backTo pos (starEach es f.env))) le σ r
/-- a primitive of one and of two values -/
def P1 {α β : Type} (R : List Addr → α → β → Prop) (t : Value → Sem β) (p : V → St → Option (Rs α)) : Prop :=
  ∀ a σ r, p a σ = some r → ∀ A mF aux led va, AOk f n A → VR (ats led) a va → Does C f R A mF aux led σ (t va) r
def P2 {α β : Type} (R : List Addr → α → β → Prop) (t : Value → Value → Sem β) (p : V → V → St → Option (Rs α)) : Prop :=
  ∀ a b σ r, p a b σ = some r → ∀ A mF aux led va vb, AOk f n A → VR (ats led) a va → VR (ats led) b vb → Does C f R A mF aux led σ (t va vb) r
end

section
variable {C : Ctx} {f : Fm} {n : Nat}
theorem LocAt.ns {mF : Str → Option Value} {aux led : Led} {m : Str → Option Value} {σ : St} {h : Heap} (l : LocAt f mF aux m) (M : MemC C f mF aux led σ h) : h.Ns f.env.locals m := by
  cases l with
  | fn e e' => rw [e, e']; exact M.fr.ns
  | cp e q =>
    obtain ⟨es, ep, h1, h2, h3⟩ := q
    exact ⟨_, es, ep, (M.nw (f.env.locals, _) (by rw [e]; simp)).1, h1, h2, h3⟩

theorem se_int {i : Int} {k : Nat} {pos : Pos} : SE C f n (.Constant (.int i) k pos) (fun _ σ => some (.ok (.int i) σ)) := by
  refine ⟨?_⟩
  intro le σ r h mF m aux led A a l e s Q E M P
  cases h
  exact wpAny_Constant_int (P led s.heap _ _ (List.prefix_refl _) M rfl)
theorem se_bool {i : Bool} {k : Nat} {pos : Pos} : SE C f n (.Constant (.bool i) k pos) (fun _ σ => some (.ok (.bool i) σ)) := by
  refine ⟨?_⟩
  intro le σ r h mF m aux led A a l e s Q E M P
  cases h
  exact wpAny_Constant_bool (P led s.heap _ _ (List.prefix_refl _) M rfl)
theorem se_none {k : Nat} {pos : Pos} : SE C f n (.Constant .none k pos) (fun _ σ => some (.ok .none σ)) := by
  refine ⟨?_⟩
  intro le σ r h mF m aux led A a l e s Q E M P
  cases h
  exact wpAny_Constant_none (P led s.heap _ _ (List.prefix_refl _) M trivial)

theorem se_local (ok : FmOk C f) {x : Str} {i : Nat} {pos : Pos} (hx : f.xs[i]? = some x) :
    SE C f n (.Name x pos) (fun le σ => (le.lo[i]?).join.map (.ok · σ)) := by
  refine ⟨?_⟩
  intro le σ r h mF m aux led A a l e s Q E M P
  obtain ⟨v, hv, rfl⟩ := Option.map_eq_some_iff.mp h
  obtain ⟨ov, ho, hr⟩ := e.lo.get hx
  rw [ho] at hv
  obtain rfl : ov = some v := hv
  have hm := mem_of_get hx
  cases hmx : m x with
  | none => rw [hmx] at hr; exact hr.elim
  | some w => rw [hmx] at hr; exact wpAny_Name (wpAny_loadName_local ok.ekind (ok.xl x hm) (l.ns M) hmx (P led s.heap _ _ (List.prefix_refl _) M hr)) (ok.hid x (List.mem_append_left _ hm))

theorem se_cell (ok : FmOk C f) {x : Str} {i : Nat} {pos : Pos} (hx : f.cs[i]? = some x) :
    SE C f n (.Name x pos) (fun le σ => (le.cl[i]?).bind fun j => match σ[j]? with | some (.cell (some v)) => some (.ok v σ) | _ => none) := by
  refine ⟨?_⟩
  intro le σ r h mF m aux led A a l e s Q E M P
  obtain ⟨j, hj, h⟩ := Option.bind_eq_some_iff.mp h
  obtain ⟨j', hj', c, hc, hr⟩ := e.cl.get hx
  rw [hj] at hj'; cases hj'
  have hm := mem_of_get hx
  split at h
  · rename_i v hσ
    cases h
    obtain ⟨c', ob, hl, v', hd, hv⟩ := M.at_ hσ
    have := Mem.ats_of hl
    rw [hr] at this; cases this
    cases v' with
    | none => exact hv.elim
    | some v' => exact wpAny_Name (wpAny_loadName_cell ok.ekind (ok.cl x hm) hc ⟨ob, M.get hl, hd⟩ (P led s.heap _ _ (List.prefix_refl _) M hv)) (ok.hid x (List.mem_append_right _ hm))
  · cases h

/-- what a global name says -/
def GV (C : Ctx) (x : Str) (v : Value) : Prop := C.mg x = some v ∨ (C.mg x = none ∧ C.mb x = some v)
theorem se_glob (ok : FmOk C f) {x : Str} {v : V} {val : Value} {pos : Pos} (hx : f.env.kindOf x = some .globalImplicit) (hd : (x == ("__debug__" : Str)) = false) (g : GV C x val) (r : VR [] v val) :
    SE C f n (.Name x pos) (fun _ σ => some (.ok v σ)) := by
  refine ⟨?_⟩
  intro le σ r' h mF m aux led A a l e s Q E M P
  cases h
  have hg : s.heap.Ns f.env.globals C.mg := by rw [ok.eglob]; exact ok.g.keeps M.fr.keep
  have hb : s.heap.Ns f.env.builtins C.mb := by rw [ok.ebi]; exact ok.b.keeps M.fr.keep
  have P' := P led s.heap s.toks val (List.prefix_refl _) M (r.mono (List.nil_prefix))
  rcases g with g | ⟨g1, g2⟩
  · exact Name_function_global ok.ekind hx (loadGlobal_global hg g P') hd
  · exact Name_function_global ok.ekind hx (loadGlobal_builtin hg g1 hb g2 P') hd

/-! ### what lies at a number -/
theorem list_at {mF aux led σ} {h : Heap} (M : MemC C f mF aux led σ h) {k : Nat} {vs : List V} {v : Value} (e : σ[k]? = some (.list vs)) (r : VR (ats led) (.ref k) v) :
    ∃ a its n, v = .ref a ∧ led[k]? = some (a, listOf (List.toArray its) n) ∧ All2 (VR (ats led)) vs its ∧ vs.length ≤ sizeLine ∧ h.IsList a its.toArray := by
  obtain ⟨a, ob, rfl, h1, its, n, rfl, h2, h3⟩ := M.deref e r
  exact ⟨a, its, n, rfl, h1, h2, h3, _, M.get h1, rfl, n, rfl⟩
theorem tup_at {mF aux led σ} {h : Heap} (M : MemC C f mF aux led σ h) {k : Nat} {vs : List V} {v : Value} (e : σ[k]? = some (.tup vs)) (r : VR (ats led) (.ref k) v) :
    ∃ a its n, v = .ref a ∧ led[k]? = some (a, { cls := .type "tuple", data := .seq (List.toArray its) n }) ∧ All2 (VR (ats led)) vs its ∧ vs.length ≤ sizeLine ∧ IsTup h a its.toArray := by
  obtain ⟨a, ob, rfl, h1, its, n, rfl, h2, h3⟩ := M.deref e r
  exact ⟨a, its, n, rfl, h1, h2, h3, _, M.get h1, rfl, n, rfl⟩
theorem dict_at (ok : FmOk C f) {mF aux led σ} {h : Heap} (M : MemC C f mF aux led σ h) {k : Nat} {vs : List (Int × V)} {ep : Option Nat} {v : Value} (e : σ[k]? = some (.dict vs ep)) (r : VR (ats led) (.ref k) v) :
    ∃ a ob kv, v = .ref a ∧ led[k]? = some (a, ob) ∧ Obj.IsDictOf (intKind C.prog C.w) ob kv ∧ All2 (KvR (ats led)) vs kv ∧ vs.length ≤ sizeLine ∧ h.DictOf (intKind C.prog C.w) a kv ∧ (a == sysModules) = false := by
  obtain ⟨a, ob, rfl, h1, kv, h2, h3, h4, _⟩ := M.deref e r
  refine ⟨a, ob, kv, rfl, h1, h2, h3, h4, PySem.Heap.dictOf_iff.mpr ⟨ob, M.get h1, h2⟩, ?_⟩
  cases q : (a == sysModules) with
  | false => rfl
  | true =>
    obtain ⟨o, ho⟩ := ok.mods
    have := (M.nw (a, ob) (List.mem_append_left _ (mem_of_get h1))).2.2
    rw [beq_iff_eq.mp q, ho] at this; cases this
theorem sizeLine_is : sizeLine = 16777216 := by decide

/-! ### truth -/
def truV (a : V) (σ : St) : Option (Rs Bool) := match a with
  | .none => some (.ok false σ)
  | .bool b => some (.ok b σ)
  | .int i => some (.ok (i != 0) σ)
  | .ref k => match σ[k]? with
    | some (.list vs) => some (.ok (!vs.isEmpty) σ)
    | some (.tup vs) => some (.ok (!vs.isEmpty) σ)
    | some (.dict vs _) => some (.ok (!vs.isEmpty) σ)
    | _ => none
  | _ => none
theorem isEmpty_of {α β} {R : α → β → Prop} {as : List α} {bs : List β} (h : All2 R as bs) : bs.isEmpty = as.isEmpty := by
  cases as <;> cases bs <;> first | rfl | exact h.elim
theorem size_of {α β} {R : α → β → Prop} {as : List α} {bs : List β} (h : All2 R as bs) (z : as.length ≤ sizeLine) : bs.length ≤ 16777216 := by
  rw [← h.length, ← sizeLine_is]; exact z
theorem tru_ok (ok : FmOk C f) : P1 C f n (fun _ (a b : Bool) => a = b) truthy truV := by
  intro a σ r h A mF aux led va _ rv s Q E M P
  cases a with
  | none => cases h; rw [rv.none_inv]; exact truthy_none (P led s.heap _ _ (List.prefix_refl _) M rfl)
  | bool b => cases h; rw [rv.bool_inv]; exact wpAny_truthy_bool (P led s.heap _ _ (List.prefix_refl _) M rfl)
  | int i => cases h; obtain ⟨t, rfl⟩ := rv.int_inv; exact truthy_int (P led s.heap _ _ (List.prefix_refl _) M rfl)
  | ref k =>
    simp only [truV] at h
    split at h <;> first | (cases h; done) | cases h
    · rename_i vs e
      obtain ⟨a, its, n, rfl, h1, h2, h3, h4⟩ := list_at M e rv
      have z := size_of h2 h3
      refine wpAny_truthy_list h4 (by simp; omega) (P led s.heap _ _ (List.prefix_refl _) M ?_)
      simp [isEmpty_of h2]
    · rename_i vs e
      obtain ⟨a, its, n, rfl, h1, h2, h3, h4⟩ := tup_at M e rv
      have z := size_of h2 h3
      refine truthy_tuple h4 (by simp; omega) (P led s.heap _ _ (List.prefix_refl _) M ?_)
      simp [isEmpty_of h2]
    · rename_i vs e
      obtain ⟨a, ob, kv, rfl, h1, h2, h3, h4, h5, h6⟩ := dict_at ok M e rv
      have z := size_of h3 h4
      refine wpAny_truthy_dict h6 h5 (by omega) (P led s.heap _ _ (List.prefix_refl _) M ?_)
      simp [isEmpty_of h3]
  | _ => cases h

/-! ### operators -/
inductive BOp where
  | add | sub | mul | fdiv | mod
def BOp.py : BOp → Operator
  | .add => .Add | .sub => .Sub | .mul => .Mult | .fdiv => .FloorDiv | .mod => .Mod
def small (i : Int) : Bool := decide (i.natAbs < 1073741824)
def binV (o : BOp) (a b : V) (σ : St) : Option (Rs V) := match o, a, b with
  | .add, .int i, .int j => some (.ok (.int (i + j)) σ)
  | .sub, .int i, .int j => some (.ok (.int (i - j)) σ)
  | .mul, .int i, .int j => if small i || small j then some (.ok (.int (i * j)) σ) else none
  | .fdiv, .int i, .int j => if j ≠ 0 ∧ small j then some (.ok (.int (i.fdiv j)) σ) else none
  | .mod, .int i, .int j => if j ≠ 0 then some (.ok (.int (i.fmod j)) σ) else none
  | .add, .ref i, .ref j => match σ[i]?, σ[j]? with
    | some (.list us), some (.list vs) => if us.length + vs.length ≤ 16777216 then some (.ok (.ref σ.length) (σ ++ [.list (us ++ vs)])) else none
    | _, _ => none
  | _, _, _ => none
theorem small_bits {i : Int} (h : small i = true) : Builtin.Int.intBits i ≤ 64 := by
  have := of_decide_eq_true h
  exact PySem.intBits_le_64 (by omega) (by omega)
theorem mulOk {i j : Int} (h : (small i || small j) = true) : IntMulOk i j := by
  rcases Bool.or_eq_true_iff.mp h with h | h
  · exact .of_left (small_bits h)
  · exact .of_right (small_bits h)
/-- a new object behind the ledger -/
theorem new_obj {mF aux led σ} {s : Shared} {h' : Heap} {ob : Obj} {o : O} (M : MemC C f mF aux led σ s.heap) (F' : Fr f.h₀ f.L h' mF)
    (N' : News f.h₀ f.L h' ((s.heap.objs.size, ob) :: (led ++ aux))) (r : ObjR C.prog C.w (ats led ++ [s.heap.objs.size]) o ob) :
    MemC C f mF aux (led ++ [(s.heap.objs.size, ob)]) (σ ++ [o]) h' ∧ ats led <+: ats (led ++ [(s.heap.objs.size, ob)]) ∧ VR (ats (led ++ [(s.heap.objs.size, ob)])) (.ref σ.length) (.ref s.heap.objs.size) := by
  have z := M.alloc F' N' (fun p hp => Heap.lt_size (M.nw p hp).1) r
  refine ⟨z.1, z.2, ?_⟩
  show (ats (led ++ [_]))[σ.length]? = _
  have e : ats (led ++ [(s.heap.objs.size, ob)]) = ats led ++ [s.heap.objs.size] := by show List.map _ _ = _; rw [List.map_append]; rfl
  have l : σ.length = (ats led).length := by rw [← M.rel.length]; show _ = (List.map _ _).length; rw [List.length_map]
  rw [e, l]; simp
theorem bin_ok (o : BOp) : P2 C f n VR (fun a b => binaryOp o.py a b) (binV o) := by
  intro a b σ r h A mF aux led va vb _ ra rb s Q E M P
  unfold binV at h
  split at h <;> first | (cases h; done) | skip
  · obtain ⟨t, rfl⟩ := ra.int_inv; obtain ⟨u, rfl⟩ := rb.int_inv; cases h
    exact add_int (P led s.heap _ _ (List.prefix_refl _) M rfl)
  · obtain ⟨t, rfl⟩ := ra.int_inv; obtain ⟨u, rfl⟩ := rb.int_inv; cases h
    exact sub_int (P led s.heap _ _ (List.prefix_refl _) M rfl)
  · obtain ⟨t, rfl⟩ := ra.int_inv; obtain ⟨u, rfl⟩ := rb.int_inv
    split at h
    · rename_i hs; cases h; exact mul_int (P led s.heap _ _ (List.prefix_refl _) M rfl) (mulOk hs)
    · cases h
  · obtain ⟨t, rfl⟩ := ra.int_inv; obtain ⟨u, rfl⟩ := rb.int_inv
    split at h
    · rename_i hs; cases h; exact floordiv_int hs.1 (P led s.heap _ _ (List.prefix_refl _) M rfl) (.inl (PyProof.noPylong_small (of_decide_eq_true hs.2)))
    · cases h
  · obtain ⟨t, rfl⟩ := ra.int_inv; obtain ⟨u, rfl⟩ := rb.int_inv
    split at h
    · rename_i hs; cases h; exact mod_int' hs (P led s.heap _ _ (List.prefix_refl _) M rfl)
    · cases h
  · rename_i i j
    split at h
    · rename_i us vs e1 e2
      split at h
      · rename_i hz
        cases h
        obtain ⟨a, its, n, rfl, h1, h2, h3, h4⟩ := list_at M e1 ra
        obtain ⟨b, jts, n', rfl, k1, k2, k3, k4⟩ := list_at M e2 rb
        refine add_arrays M.fr M.nw h4 k4 (fun h' F' N' => ?_) (by rw [sizeLine_is]; have := h2.length; have := k2.length; simp; omega)
        have r2 := (h2.append k2).imp fun _ _ => VR.mono (List.prefix_append (ats led) [s.heap.objs.size])
        obtain ⟨M', p', v'⟩ := new_obj (o := .list (us ++ vs)) M F' N' ⟨its ++ jts, 0, by simp, r2, by rw [sizeLine_is]; simp; omega⟩
        exact P _ _ _ _ p' M' v'
      · cases h
    · cases h
end
end Mine

end
section
open PySem PySem.W PyProof.Rows PySem.Calls PySem.Spec PyProof.V PySem.SeqAt
set_option linter.unusedSimpArgs false
set_option autoImplicit false
set_option Elab.async false
namespace Mine

/-! ## functions and methods -/
/-- names of methods -/
def mn : Nat → Str
  | 0 => "__lt__" | 1 => "__eq__" | 2 => "__init__" | 3 => "add_child" | 4 => "add_child_exclusive" | 5 => "remove_child" | 6 => "schedule"
  | 7 => "_get_or_insert_parent" | 8 => "_exclusive_insert" | 9 => "insert_stream" | 10 => "reprioritize" | 11 => "remove_stream" | 12 => "block" | 13 => "unblock" | 14 => "__next__" | 15 => "next" | _ => "__iter__"

structure Tab where
  addr : Nat → Addr
  kw : Nat → Option (Nat × List Str)
  mth : Addr → Nat → Option Nat
  isCls : Addr → Bool
  prop : Addr → Option (Nat × Nat)
  tups : Addr → Option (List V)

/-- how the values of a call are handed on -/
def Tab.args (T : Tab) (g : Nat) (vals : List Value) : Args := match T.kw g with
  | none => ⟨vals, []⟩
  | some (k, names) => ⟨vals.take k, names.zip (vals.drop k)⟩
theorem Tab.args_plain {T : Tab} {g : Nat} (h : T.kw g = none) (vals : List Value) : T.args g vals = ⟨vals, []⟩ := by unfold Tab.args; rw [h]

abbrev CallF := Nat → List V → St → Option (Rs V)

section
variable (C : Ctx)
/-- a call that does what the evaluator says, whatever stands behind it -/
def DoesC (f : Fm) (A : Around) (mF : Str → Option Value) (aux led : Led) (σ : St) (c : Code) (r : Rs V) : Prop :=
  ∀ s (Rr : Result → Shared → Prop), MemC C f mF aux led σ s.heap →
    (match r with
      | .ok v σ' => ∀ led' h' tk val, ats led <+: ats led' → MemC C f mF aux led' σ' h' → VR (ats led') v val → Rr (.ok (.ret val)) { s with heap := h', toks := tk }
      | .exc x σ' => ∀ led' h' tk e, ats led <+: ats led' → RaisedAt C f mF aux led' σ' x e h' → Rr (.error (.ref e)) { s with heap := h', toks := tk }) →
    codeAny (model C.prog C.w) A c Rr s
def CallOk (T : Tab) (call : CallF) (n : Nat) : Prop :=
  ∀ g args σ r, call g args σ = some r → ∀ f, FmOk C f → ∀ A, AOk f n A → ∀ mF aux led vals, All2 (VR (ats led)) args vals →
    DoesC C f A mF aux led σ (.call (.ref (T.addr g)) (T.args g vals)) r

/-- a plain class of the text: fields in the instance's own dict -/
structure ClsOk (K : Frag) (c : Addr) : Prop where
  get : ∀ x : Str, plainGet K c x = true
  dict : hasDictIn K c = true
  fld : ∀ i, i < nmN → findIn K (.ref c) (nm i) = some none
  over : plainOver K c = true
  set : findIn K (.ref c) "__setattr__" = some (some (.builtin "object.__setattr__"))
  tak : ∀ i, i < nmN → takerIn K c (nm i) = some none
  inst : makesIn K c = true
  isin : isIn K (.ref c) c = true
/-- a property «weight» -/
structure PropOk (K : Frag) (c g s : Addr) : Prop where
  ex : ∃ p rest, findIn K (.ref c) "weight" = some (some (.ref p)) ∧ specialIn K (.ref p) "__get__" = some (some (.builtin "property.__get__")) ∧ takesIn K (.ref p) = some true ∧
    recIn K p "property" = some (.ref g :: .ref s :: rest) ∧ takerIn K c "weight" = some (some (.ref p)) ∧ typeIn K (.ref p) = some (.type "property")
structure TabOk (T : Tab) : Prop where
  tup : ∀ a vs, T.tups a = some vs → ∃ its k dd sl, C.K.lookup a = some ⟨.type "tuple", dd, .seq (List.toArray its) k, sl⟩ ∧ All2 (VR []) vs its ∧ vs.length ≤ sizeLine
  meth : ∀ c k g, T.mth c k = some g → findIn C.K (.ref c) (mn k) = some (some (.ref (T.addr g))) ∧ isFn C.K (.ref (T.addr g)) = true ∧ keepIn C.K (.ref (T.addr g)) = true ∧ T.kw g = none
  cls : ∀ c, T.isCls c = true → ClsOk C.K c
  prop : ∀ c g s, T.prop c = some (g, s) → PropOk C.K c (T.addr g) (T.addr s) ∧ T.kw g = none ∧ T.kw s = none
end

section
variable {C : Ctx} {f : Fm}
theorem DoesC.does {A mF aux led σ c} {r : Rs V} (h : DoesC C f A mF aux led σ c r) : Does C f VR A mF aux led σ (runValue c) r := by
  intro s Q E M P
  refine wpAny_runValue (h s _ M ?_)
  cases r with
  | ok v σ' => exact fun led' h' tk val p M' r => P led' h' tk val p M' r
  | exc x σ' => exact fun led' h' tk e p M' => P led' h' tk e p M'

/-! ### an instance -/
theorem inst_at {mF aux led σ} {h : Heap} (M : MemC C f mF aux led σ h) {k d : Nat} {c : Addr} {fs : List (Nat × V)} {v : Value} (e : σ[k]? = some (.inst c d)) (e' : σ[d]? = some (.ns fs)) (r : VR (ats led) (.ref k) v) :
    ∃ a dx es n, v = .ref a ∧ led[k]? = some (a, instObj c dx) ∧ led[d]? = some (dx, dictOf es n) ∧ All2 (EntR (ats led)) fs es ∧ InstAt h a (instObj c dx) c (some (dictOf es n)) := by
  obtain ⟨a, ob, rfl, h1, dx, h2, rfl⟩ := M.deref e r
  obtain ⟨dx', ob', h3, es, n, rfl, h4⟩ := M.at_ e'
  have := Mem.ats_of h3
  rw [h2] at this; cases this
  exact ⟨a, dx, es, n, rfl, h1, h3, h4, M.get h1, rfl, rfl, M.get h3⟩

/-! ### comparisons -/
inductive COp where
  | eq | ne | lt | le | gt | ge | is_ | isNot | in_ | notIn
def COp.py : COp → CmpOp
  | .eq => .Eq | .ne => .NotEq | .lt => .Lt | .le => .LtE | .gt => .Gt | .ge => .GtE | .is_ => .Is | .isNot => .IsNot | .in_ => .In | .notIn => .NotIn
def intsV : List V → Option (List Int)
  | [] => some []
  | .int i :: r => (intsV r).map (i :: ·)
  | _ :: _ => none
def intssV (σ : St) : List V → Option (List (List Int))
  | [] => some []
  | .ref k :: r => match σ[k]? with
    | some (.list vs) => (intsV vs).bind fun is => (intssV σ r).map (is :: ·)
    | _ => none
  | _ :: _ => none
def boolsV : List V → Option (List Bool)
  | [] => some []
  | .bool i :: r => (boolsV r).map (i :: ·)
  | _ :: _ => none
def isNoneV : V → Bool
  | .none => true
  | _ => false
/-- are they equal (lists of ints, lists of such) -/
def deq (i j : Nat) (σ : St) : Option Bool := match σ[i]?, σ[j]? with
  | some (.list us), some (.list vs) => match intsV us, intsV vs with
    | some a, some b => some (decide (a = b))
    | _, _ => match intssV σ us, intssV σ vs with
      | some a, some b => some (decide (a = b))
      | _, _ => none
  | _, _ => none
def cmpV (T : Tab) (call : CallF) (o : COp) (a b : V) (σ : St) : Option (Rs V) := match o, a, b with
  | .is_, v, .none => some (.ok (.bool (isNoneV v)) σ)
  | .isNot, v, .none => some (.ok (.bool (!isNoneV v)) σ)
  | .eq, .int i, .int j => some (.ok (.bool (i == j)) σ)
  | .ne, .int i, .int j => some (.ok (.bool (i != j)) σ)
  | .lt, .int i, .int j => some (.ok (.bool (decide (i < j))) σ)
  | .le, .int i, .int j => some (.ok (.bool (decide (i ≤ j))) σ)
  | .gt, .int i, .int j => some (.ok (.bool (decide (i > j))) σ)
  | .ge, .int i, .int j => some (.ok (.bool (decide (i ≥ j))) σ)
  | .eq, .bool i, .bool j => some (.ok (.bool (i == j)) σ)
  | .ne, .bool i, .bool j => some (.ok (.bool (i != j)) σ)
  | .eq, .none, .int _ => some (.ok (.bool false) σ)
  | .ne, .none, .int _ => some (.ok (.bool true) σ)
  | .eq, .ref i, .ref j => match σ[i]? with
    | some (.inst c d) => match σ[j]?, σ[d]?, T.mth c 1 with
      | some (.inst c' _), some (.ns _), some g => if c = c' then (call g [.ref i, .ref j] σ) else none
      | _, _, _ => none
    | _ => (deq i j σ).map fun b => .ok (.bool b) σ
  | .ne, .ref i, .ref j => (deq i j σ).map fun b => .ok (.bool (!b)) σ
  | .lt, .ref i, .ref j => match σ[i]?, σ[j]? with
    | some (.inst c d), some (.inst c' _) => match σ[d]?, T.mth c 0 with
      | some (.ns _), some g => if c = c' then (call g [.ref i, .ref j] σ) else none
      | _, _ => none
    | _, _ => none
  | .in_, .int i, .ref j => match σ[j]? with
    | some (.dict kvs _) => some (.ok (.bool (kvs.any fun p => p.1 == i)) σ)
    | some (.list vs) => (intsV vs).map fun is => .ok (.bool (is.any (· == i))) σ
    | _ => none
  | .notIn, .int i, .ref j => match σ[j]? with
    | some (.dict kvs _) => some (.ok (.bool (!kvs.any fun p => p.1 == i)) σ)
    | some (.list vs) => (intsV vs).map fun is => .ok (.bool (!is.any (· == i))) σ
    | _ => none
  | _, _, _ => none
theorem intsV_are {ρ : List Addr} : ∀ {vs : List V} {is : List Int} {its : List Value}, intsV vs = some is → All2 (VR ρ) vs its → IntsAre its is
  | [], _, _, h, r => by cases h; rw [r.nil_inv]; exact .nil
  | .int i :: vs, is, its, h, r => by
    obtain ⟨b, its', rfl, h1, h2⟩ := r.cons_inv
    obtain ⟨is', h3, rfl⟩ := Option.map_eq_some_iff.mp h
    obtain ⟨t, rfl⟩ := h1.int_inv
    exact .cons _ _ (intsV_are h3 h2)
  | .none :: _, _, _, h, _ | .bool _ :: _, _, _, h, _ | .ref _ :: _, _, _, h, _ | .glob _ :: _, _, _, h, _ | .bi _ :: _, _, _, h, _ | .ty _ :: _, _, _, h, _ => by cases h
theorem readsAllints {mF aux led σ} {h : Heap} (M : MemC C f mF aux led σ h) : ∀ {vs : List V} {iss : List (List Int)} {its : List Value}, intssV σ vs = some iss → All2 (VR (ats led)) vs its →
    ∃ as, ReadsAll h its (iss.map fun is => .list (is.map PyData.int)) as
  | [], _, _, h, r => by cases h; rw [r.nil_inv]; exact ⟨_, .nil⟩
  | .ref k :: vs, iss, its, h, r => by
    obtain ⟨b, its', rfl, h1, h2⟩ := r.cons_inv
    simp only [intssV] at h
    split at h
    · rename_i us e
      obtain ⟨is, h3, h⟩ := Option.bind_eq_some_iff.mp h
      obtain ⟨iss', h4, rfl⟩ := Option.map_eq_some_iff.mp h
      obtain ⟨a, jts, n, rfl, _, k2, _, k4⟩ := list_at M e h1
      obtain ⟨as, ih⟩ := readsAllints M h4 h2
      exact ⟨_, .cons (reads_of_ints k4 (intsV_are h3 k2)) ih⟩
    · cases h
  | .none :: _, _, _, h, _ | .bool _ :: _, _, _, h, _ | .int _ :: _, _, _, h, _ | .glob _ :: _, _, _, h, _ | .bi _ :: _, _, _, h, _ | .ty _ :: _, _, _, h, _ => by cases h
theorem canLayAll0_intss : ∀ nss : List (List Int), PyData.canLayAll0 (nss.map fun ns => .list (ns.map PyData.int)) = true
  | [] => by simp [PyData.canLayAll0]
  | ns :: r => by simp only [List.map_cons, PyData.canLayAll0, PyData.canLay0, canLayAll0_ints ns, canLayAll0_intss r, Bool.and_self]
theorem depthAll_intss : ∀ nss : List (List Int), PyData.depthAll (nss.map fun ns => .list (ns.map PyData.int)) ≤ 2
  | [] => by simp [PyData.depthAll]
  | ns :: r => by
    have h1 := W.depthAll_ints ns
    have h2 := depthAll_intss r
    simp only [List.map_cons, PyData.depthAll, PyData.depth]
    omega
theorem shaped_intss (nss : List (List Int)) : shaped (.list (nss.map fun ns => .list (ns.map PyData.int))) = true := by
  have h := depthAll_intss nss
  unfold shaped
  rw [Bool.and_eq_true]
  exact ⟨by rw [PyData.canLay0]; exact canLayAll0_intss nss, decide_eq_true (by rw [PyData.depth]; omega)⟩
theorem noMix_intss : ∀ nss mss : List (List Int), noMixAll (nss.map fun ns => .list (ns.map PyData.int)) (mss.map fun ns => .list (ns.map PyData.int)) = true
  | [], [] => by simp [noMixAll]
  | [], _ :: _ => by simp [noMixAll]
  | _ :: _, [] => by simp [noMixAll]
  | ns :: r, ms :: t => by simp only [List.map_cons, noMixAll, noMix, noMix_ints, noMix_intss r t, Bool.and_self]
theorem same_intss : ∀ nss mss : List (List Int), PySem.Spec.sameAll (nss.map fun ns => .list (ns.map PyData.int)) (mss.map fun ns => .list (ns.map PyData.int)) = decide (nss = mss)
  | [], [] => by simp [PySem.Spec.sameAll]
  | [], _ :: _ => by simp [PySem.Spec.sameAll]
  | _ :: _, [] => by simp [PySem.Spec.sameAll]
  | ns :: r, ms :: t => by
    simp only [List.map_cons, PySem.Spec.sameAll, PySem.Spec.same, same_ints, same_intss r t, List.cons.injEq]
    by_cases h1 : ns = ms <;> by_cases h2 : r = t <;> simp [h1, h2]
theorem deq_ok {n A mF aux led σ i j b} {va vb : Value} {s : Shared} (a : AOk f n A) (M : MemC C f mF aux led σ s.heap) (h : deq i j σ = some b) (ra : VR (ats led) (.ref i) va) (rb : VR (ats led) (.ref j) vb) {Q : Value → Shared → Prop} {E : Value → Shared → Prop} :
    (Q (.bool b) s → wpAny (model C.prog C.w) A (compareOp .Eq va vb) Q E s) ∧ (Q (.bool (!b)) s → wpAny (model C.prog C.w) A (compareOp .NotEq va vb) Q E s) := by
  unfold deq at h
  split at h
  · rename_i us vs e1 e2
    obtain ⟨a1, its, n1, rfl, _, h2, _, h4⟩ := list_at M e1 ra
    obtain ⟨a2, jts, n2, rfl, _, k2, _, k4⟩ := list_at M e2 rb
    have hu : A.units + 64 < cLine := by have := a.cline; omega
    split at h
    · rename_i x y q1 q2
      cases h
      exact ⟨fun k => eq_intsK h4 (intsV_are q1 h2) k4 (intsV_are q2 k2) hu k, fun k => ne_intsK h4 (intsV_are q1 h2) k4 (intsV_are q2 k2) hu k⟩
    · split at h
      · rename_i x y q1 q2
        cases h
        obtain ⟨as, r1⟩ := readsAllints M q1 h2
        obtain ⟨bs, r2⟩ := readsAllints M q2 k2
        obtain ⟨o, ho, hc, m, hd⟩ := h4
        obtain ⟨o', ho', hc', m', hd'⟩ := k4
        have R1 : Reads s.heap (.ref a1) (.list (x.map fun is => .list (is.map PyData.int))) (a1 :: as) := .list ho hc hd (by simpa using r1)
        have R2 : Reads s.heap (.ref a2) (.list (y.map fun is => .list (is.map PyData.int))) (a2 :: bs) := .list ho' hc' hd' (by simpa using r2)
        have nm := noMix_intss x y
        refine ⟨fun k => eq_dataH_same R1 R2 (shaped_intss x) (shaped_intss y) hu (by simpa only [noMix] using nm) (by simp only [PySem.Spec.same]; rw [same_intss]; exact k),
          fun k => ne_dataH_same R1 R2 (shaped_intss x) (shaped_intss y) hu (by simpa only [noMix] using nm) (by simp only [PySem.Spec.same]; rw [same_intss]; exact k)⟩
      · cases h
  · cases h
end
end Mine

end
section
open PySem PySem.W PyProof.Rows PySem.Calls PySem.Spec PyProof.V PySem.SeqAt
set_option linter.unusedSimpArgs false
set_option autoImplicit false
set_option Elab.async false
namespace Mine
section
variable {C : Ctx} {f : Fm} {n : Nat}
/-- the call's answer is not NotImplemented -/
theorem VR.not_ni {ρ : List Addr} {x : V} {v : Value} (r : VR ρ x v) : v ≠ .notImplemented := by
  rintro rfl
  cases x <;> exact r.elim
theorem wcmpBack_of {ρ : List Addr} {x : V} {v : Value} {Q : Value → Shared → Prop} {s : Shared} (r : VR ρ x v) (h : Q v s) : W.CmpBack Q v s := by
  have := r.not_ni
  unfold W.CmpBack
  split
  · exact absurd rfl this
  · exact h
theorem valueAt_is {ρ : List Addr} {i : Int} : ∀ {kvs : List (Int × V)} {kv : List (Int × Value)}, All2 (KvR ρ) kvs kv → (valueAt kv i).isSome = kvs.any fun p => p.1 == i
  | [], [], _ => rfl
  | [], _ :: _, h => h.elim
  | _ :: _, [], h => h.elim
  | (a, x) :: kvs, (b, y) :: kv, h => by
    have ih := valueAt_is (i := i) h.2
    have hab : a = b := h.1.1
    subst hab
    simp only [valueAt, List.find?_cons, List.any_cons] at ih ⊢
    by_cases hi : a = i
    · simp [hi]
    · have e : (a == i) = false := by simpa using hi
      simp only [hi, decide_false, e, Bool.false_or]; exact ih
theorem cmp_call {T : Tab} {call : CallF} (ok : FmOk C f) (tk : TabOk C T) (hc : CallOk C T call n) {o : COp} {m : Nat} (hm : (cmpInfo o.py).2.1 = mn m) (ho : ∀ a b, compareOp o.py a b = richCompare o.py a b)
    {i j d d' : Nat} {c g : Addr} {fs : List (Nat × V)} {σ : St} {r : Rs V} (e1 : σ[i]? = some (.inst c d)) (e2 : σ[j]? = some (.inst c d')) (e3 : σ[d]? = some (.ns fs)) (hg : T.mth c m = some g) (h : call g [.ref i, .ref j] σ = some r)
    {A : Around} {mF aux led va vb} (a : AOk f (n + 1) A) (ra : VR (ats led) (.ref i) va) (rb : VR (ats led) (.ref j) vb) : Does C f VR A mF aux led σ (compareOp o.py va vb) r := by
  intro s Q E M P
  obtain ⟨x, dx, es, k, rfl, h1, h2, h3, I⟩ := inst_at M e1 e3 ra
  obtain ⟨y, ob, rfl, k1, dy, k2, rfl⟩ := M.deref e2 rb
  obtain ⟨t1, t2, _, t4⟩ := tk.meth c m g hg
  rw [ho]
  refine cmp_K (C := c) (tb := .ref c) (by have := a.cline; omega) M.fr ok.X I ?_ (by unfold notFirst; simp) (by rw [hm]; exact t1) t2 ?_
  · intro A' Q' E' s' hk q
    exact wpAny_bind (wpAny_loadPart (hk _ _ (M.get k1)) (wpAny_pure q))
  · have D := hc g _ _ _ h f ok A (a.le (Nat.le_succ n)) mF aux led [.ref x, .ref y] ⟨ra, rb, trivial⟩
    rw [Tab.args_plain t4] at D
    have D := D.does
    refine D s _ E M ?_
    cases r with
    | ok v σ' => exact fun led' h' tk b p M' R' => wcmpBack_of R' (P led' h' tk b p M' R')
    | exc z σ' => exact P
theorem cmp_ok {T : Tab} {call : CallF} (ok : FmOk C f) (tk : TabOk C T) (hc : CallOk C T call n) (o : COp) : P2 C f (n + 1) VR (fun a b => compareOp o.py a b) (cmpV T call o) := by
  intro a b σ r h A mF aux led va vb aok ra rb
  have here : ∀ {b : Bool}, (∀ (s : Shared) (Q : Value → Shared → Prop) (E : Value → Shared → Prop), Q (.bool b) s → wpAny (model C.prog C.w) A (compareOp o.py va vb) Q E s) → Does C f VR A mF aux led σ (compareOp o.py va vb) (.ok (.bool b) σ) :=
    fun k s Q E M P => k s Q E (P led s.heap _ _ (List.prefix_refl _) M rfl)
  unfold cmpV at h
  split at h
  · obtain rfl := rb.none_inv; cases h
    refine here fun s Q E q => ?_
    cases a with
    | none => obtain rfl := ra.none_inv; exact wpAny_is_self rfl q
    | bool b => obtain rfl := ra.bool_inv; exact is_bool_none q
    | int i => obtain ⟨t, rfl⟩ := ra.int_inv; exact is_int_none q
    | ref k => obtain ⟨x, rfl, _⟩ := ra.ref_inv; exact is_ref_none q
    | glob x => obtain rfl := ra.glob_inv; exact is_ref_none q
    | bi x => obtain rfl := ra.bi_inv; exact is_none_ne (by intro x; cases x) q
    | ty x => obtain rfl := ra.ty_inv; exact is_none_ne (by intro x; cases x) q
  · obtain rfl := rb.none_inv; cases h
    refine here fun s Q E q => ?_
    cases a with
    | none => obtain rfl := ra.none_inv; exact wpAny_isNot_self rfl q
    | bool b => obtain rfl := ra.bool_inv; exact isnot_bool_none q
    | int i => obtain ⟨t, rfl⟩ := ra.int_inv; exact isnot_int_none q
    | ref k => obtain ⟨x, rfl, _⟩ := ra.ref_inv; exact isnot_none_ne (by intro x; cases x) q
    | glob x => obtain rfl := ra.glob_inv; exact isnot_none_ne (by intro x; cases x) q
    | bi x => obtain rfl := ra.bi_inv; exact isnot_none_ne (by intro x; cases x) q
    | ty x => obtain rfl := ra.ty_inv; exact isnot_none_ne (by intro x; cases x) q
  · obtain ⟨t, rfl⟩ := ra.int_inv; obtain ⟨u, rfl⟩ := rb.int_inv; cases h; exact here fun s Q E q => eq_int q
  · obtain ⟨t, rfl⟩ := ra.int_inv; obtain ⟨u, rfl⟩ := rb.int_inv; cases h; exact here fun s Q E q => ne_int q
  · obtain ⟨t, rfl⟩ := ra.int_inv; obtain ⟨u, rfl⟩ := rb.int_inv; cases h; exact here fun s Q E q => lt_int q
  · obtain ⟨t, rfl⟩ := ra.int_inv; obtain ⟨u, rfl⟩ := rb.int_inv; cases h; exact here fun s Q E q => le_int q
  · obtain ⟨t, rfl⟩ := ra.int_inv; obtain ⟨u, rfl⟩ := rb.int_inv; cases h; exact here fun s Q E q => gt_int q
  · obtain ⟨t, rfl⟩ := ra.int_inv; obtain ⟨u, rfl⟩ := rb.int_inv; cases h; exact here fun s Q E q => ge_int q
  · obtain rfl := ra.bool_inv; obtain rfl := rb.bool_inv; cases h; exact here fun s Q E q => eq_bool q
  · obtain rfl := ra.bool_inv; obtain rfl := rb.bool_inv; cases h; exact here fun s Q E q => ne_bool q
  · obtain rfl := ra.none_inv; obtain ⟨u, rfl⟩ := rb.int_inv; cases h; exact here fun s Q E q => EqNone.eq_none_int q
  · obtain rfl := ra.none_inv; obtain ⟨u, rfl⟩ := rb.int_inv; cases h; exact here fun s Q E q => EqNone.ne_none_int q
  · rename_i i j
    split at h
    · rename_i c d e1
      split at h <;> first | (cases h; done) | skip
      rename_i c' d' fs g e2 e3 hg
      split at h
      · rename_i hcc
        subst hcc
        exact cmp_call ok tk hc (o := .eq) (m := 1) rfl (fun _ _ => rfl) e1 e2 e3 hg h aok ra rb
      · cases h
    · obtain ⟨b, hb, rfl⟩ := Option.map_eq_some_iff.mp h
      exact fun s Q E M P => (deq_ok aok M hb ra rb).1 (P led s.heap _ _ (List.prefix_refl _) M rfl)
  · obtain ⟨b, hb, rfl⟩ := Option.map_eq_some_iff.mp h
    exact fun s Q E M P => (deq_ok aok M hb ra rb).2 (P led s.heap _ _ (List.prefix_refl _) M rfl)
  · rename_i i j
    split at h <;> first | (cases h; done) | skip
    rename_i c d c' d' e1 e2
    split at h <;> first | (cases h; done) | skip
    rename_i fs g e3 hg
    split at h
    · rename_i hcc
      subst hcc
      exact cmp_call ok tk hc (o := .lt) (m := 0) rfl (fun _ _ => rfl) e1 e2 e3 hg h aok ra rb
    · cases h
  · rename_i i j
    obtain ⟨t, rfl⟩ := ra.int_inv
    split at h
    · rename_i kvs e
      cases h
      intro s Q E M P
      obtain ⟨x, ob, kv, rfl, h1, h2, h3, h4, h5, h6⟩ := dict_at ok M e rb
      exact kda_in M.nw (List.mem_append_left _ (mem_of_get h1)) h2 h6 (by simp [intKind, Value.isInt]) _ (valueAt_is h3) (P led s.heap _ _ (List.prefix_refl _) M rfl)
    · rename_i vs e
      obtain ⟨is, hi, rfl⟩ := Option.map_eq_some_iff.mp h
      intro s Q E M P
      obtain ⟨x, its, k, rfl, h1, h2, h3, h4⟩ := list_at M e rb
      exact in_list_ints h4 (intsV_are hi h2) (P led s.heap _ _ (List.prefix_refl _) M rfl)
    · cases h
  · rename_i i j
    obtain ⟨t, rfl⟩ := ra.int_inv
    split at h
    · rename_i kvs e
      cases h
      intro s Q E M P
      obtain ⟨x, ob, kv, rfl, h1, h2, h3, h4, h5, h6⟩ := dict_at ok M e rb
      exact wpAny_notIn_of (knd := intKind C.prog C.w) (k := i) (by simp [intKind, Value.isInt]) h6 h5.mapOf (by rw [valueAt_is h3]; exact P led s.heap _ _ (List.prefix_refl _) M rfl)
    · rename_i vs e
      obtain ⟨is, hi, rfl⟩ := Option.map_eq_some_iff.mp h
      intro s Q E M P
      obtain ⟨x, its, k, rfl, h1, h2, h3, h4⟩ := list_at M e rb
      exact notin_list_ints h4 (intsV_are hi h2) (P led s.heap _ _ (List.prefix_refl _) M rfl)
    · cases h
  · cases h
end
end Mine

end
section
open PySem PySem.W PyProof.Rows PySem.Calls PySem.Spec PyProof.V PySem.SeqAt
set_option linter.unusedSimpArgs false
set_option autoImplicit false
set_option Elab.async false
namespace Mine
/-! ## expressions out of their parts -/
def binE (o : BOp) (e1 e2 : EF) : EF := fun le σ => bindR (e1 le σ) fun a σ1 => bindR (e2 le σ1) fun b σ2 => binV o a b σ2
def cmpE (T : Tab) (call : CallF) (o : COp) (e1 e2 : EF) : EF := fun le σ => bindR (e1 le σ) fun a σ1 => bindR (e2 le σ1) fun b σ2 => cmpV T call o a b σ2
def truE (e : EF) : EFb := fun le σ => bindR (e le σ) truV
def notE (e : EF) : EF := fun le σ => bindR (e le σ) fun a σ1 => bindR (truV a σ1) fun b σ2 => some (.ok (.bool (!b)) σ2)
def negV : V → St → Option (Rs V)
  | .int i, σ => some (.ok (.int (-i)) σ)
  | _, _ => none
def negE (e : EF) : EF := fun le σ => bindR (e le σ) negV
def notB (e : EFb) : EFb := fun le σ => bindR (e le σ) fun b σ1 => some (.ok (!b) σ1)
def andB (e1 e2 : EFb) : EFb := fun le σ => bindR (e1 le σ) fun b σ1 => if b then e2 le σ1 else some (.ok false σ1)
def orB (e1 e2 : EFb) : EFb := fun le σ => bindR (e1 le σ) fun b σ1 => if b then some (.ok true σ1) else e2 le σ1
def ttB : EFb := fun _ σ => some (.ok true σ)
def ffB : EFb := fun _ σ => some (.ok false σ)
def andE (e1 e2 : EF) : EF := fun le σ => bindR (e1 le σ) fun a σ1 => bindR (truV a σ1) fun b σ2 => if b then e2 le σ2 else some (.ok a σ2)
def orE (e1 e2 : EF) : EF := fun le σ => bindR (e1 le σ) fun a σ1 => bindR (truV a σ1) fun b σ2 => if b then some (.ok a σ2) else e2 le σ2
def iteE (c : EFb) (e1 e2 : EF) : EF := fun le σ => bindR (c le σ) fun b σ1 => if b then e1 le σ1 else e2 le σ1
def nilS : EFs := fun _ σ => some (.ok [] σ)
def consS (e : EF) (es : EFs) : EFs := fun le σ => bindR (e le σ) fun a σ1 => bindR (es le σ1) fun as σ2 => some (.ok (a :: as) σ2)
def listE (es : EFs) : EF := fun le σ => bindR (es le σ) fun vs σ1 => if vs.length ≤ 16777216 then some (.ok (.ref σ1.length) (σ1 ++ [.list vs])) else none
def tupE (es : EFs) : EF := fun le σ => bindR (es le σ) fun vs σ1 => if vs.length ≤ 16777216 then some (.ok (.ref σ1.length) (σ1 ++ [.tup vs])) else none

section
variable {C : Ctx} {f : Fm} {n : Nat}
theorem se_bin {l r : Expr} {o : BOp} {pos : Pos} {e1 e2 : EF} (h1 : SE C f n l e1) (h2 : SE C f n r e2) : SE C f n (.BinOp l o.py r pos) (binE o e1 e2) := by
  refine ⟨?_⟩
  intro le σ r h mF m aux led A a lc lr s Q E M P
  refine wpAny_BinOp (compose h (fun r1 q => h1.p le σ r1 q mF m aux led A a lc lr) M P fun x σ1 led1 hp1 tk1 b hk p1 M1 R1 P1 => ?_)
  refine compose hk (fun r1 q => h2.p le σ1 r1 q mF m aux led1 A a lc (lr.mono p1)) M1 P1 fun y σ2 led2 hp2 tk2 b2 hk2 p2 M2 R2 P2 => ?_
  exact bin_ok o x y σ2 _ hk2 A mF aux led2 _ _ a (R1.mono p2) R2 _ _ _ M2 P2
theorem se_cmp {T : Tab} {call : CallF} (ok : FmOk C f) (tk : TabOk C T) (hc : CallOk C T call n) {l r : Expr} {o : COp} {pos : Pos} {e1 e2 : EF} (h1 : SE C f (n + 1) l e1) (h2 : SE C f (n + 1) r e2) (hm : behindInMarks o.py r = false) :
    SE C f (n + 1) (.Compare l [o.py] [r] pos) (cmpE T call o e1 e2) := by
  refine ⟨?_⟩
  intro le σ r h mF m aux led A a lc lr s Q E M P
  refine wpAny_Compare1 (compose h (fun r1 q => h1.p le σ r1 q mF m aux led A a lc lr) M P fun x σ1 led1 hp1 tk1 b hk p1 M1 R1 P1 => ?_) hm
  refine compose hk (fun r1 q => h2.p le σ1 r1 q mF m aux led1 A a lc (lr.mono p1)) M1 P1 fun y σ2 led2 hp2 tk2 b2 hk2 p2 M2 R2 P2 => ?_
  exact cmp_ok ok tk hc o x y σ2 _ hk2 A mF aux led2 _ _ a (R1.mono p2) R2 _ _ _ M2 P2
theorem sb_cmp {T : Tab} {call : CallF} (ok : FmOk C f) (tk : TabOk C T) (hc : CallOk C T call n) {l r : Expr} {o : COp} {pos : Pos} {e1 e2 : EF} (h1 : SE C f (n + 1) l e1) (h2 : SE C f (n + 1) r e2) (hm : behindInMarks o.py r = false) :
    SB C f (n + 1) (.Compare l [o.py] [r] pos) (truE (cmpE T call o e1 e2)) := by
  refine ⟨?_⟩
  intro le σ r h mF m aux led A a lc lr s Q E M P
  have ass : ∀ x : V → St → Option (Rs Bool), bindR (cmpE T call o e1 e2 le σ) x = bindR (e1 le σ) fun a σ1 => bindR (e2 le σ1) fun b σ2 => bindR (cmpV T call o a b σ2) x := by
    intro x
    unfold cmpE
    cases e1 le σ with
    | none => rfl
    | some r1 => cases r1 with
      | exc => rfl
      | ok a σ1 =>
        show bindR (bindR (e2 le σ1) _) x = bindR (e2 le σ1) _
        cases e2 le σ1 with
        | none => rfl
        | some r2 => cases r2 <;> rfl
  unfold truE at h
  rw [ass] at h
  refine wpAny_isTrue_Compare1 (compose h (fun r1 q => h1.p le σ r1 q mF m aux led A a lc lr) M P fun x σ1 led1 hp1 tk1 b hk p1 M1 R1 P1 => ?_) hm
  refine compose hk (fun r1 q => h2.p le σ1 r1 q mF m aux led1 A a lc (lr.mono p1)) M1 P1 fun y σ2 led2 hp2 tk2 b2 hk2 p2 M2 R2 P2 => ?_
  refine compose hk2 (fun r1 q => cmp_ok ok tk hc o x y σ2 _ q A mF aux led2 _ _ a (R1.mono p2) R2) M2 P2 fun z σ3 led3 hp3 tk3 b3 hk3 p3 M3 R3 P3 => ?_
  exact tru_ok ok z σ3 _ hk3 A mF aux led3 _ a R3 _ _ _ M3 P3
theorem sb_plain (ok : FmOk C f) {e : Expr} {e1 : EF} (h1 : SE C f n e e1) (hp : ∀ whole, isTrue e f.env whole = do let v ← whole; standAt e.pos; holding [v] (truthy v)) : SB C f n e (truE e1) := by
  refine ⟨?_⟩
  intro le σ r h mF m aux led A a lc lr s Q E M P
  refine isTrue_plain (compose h (fun r1 q => h1.p le σ r1 q mF m aux led A a lc lr) M P fun x σ1 led1 hp1 tk1 b hk p1 M1 R1 P1 => ?_) (hp _)
  exact tru_ok ok x σ1 _ hk A mF aux led1 _ a R1 _ _ _ M1 P1
theorem sb_not {e : Expr} {pos : Pos} {e1 : EFb} (h1 : SB C f n e e1) : SB C f n (.UnaryOp .Not e pos) (notB e1) := by
  refine ⟨?_⟩
  intro le σ r h mF m aux led A a lc lr s Q E M P
  refine isTrue_not (compose h (fun r1 q => h1.p le σ r1 q mF m aux led A a lc lr) M P fun x σ1 led1 hp1 tk1 b hk p1 M1 R1 P1 => ?_)
  cases hk
  exact P1 led1 hp1 tk1 _ (List.prefix_refl _) M1 (by rw [R1])
theorem sb_and_nil {pos : Pos} : SB C f n (.BoolOp .And [] pos) ttB := by
  refine ⟨?_⟩
  intro le σ r h mF m aux led A a lc lr s Q E M P
  cases h
  exact isTrue_and_nil (P led s.heap s.toks _ (List.prefix_refl _) M rfl)
theorem sb_or_nil {pos : Pos} : SB C f n (.BoolOp .Or [] pos) ffB := by
  refine ⟨?_⟩
  intro le σ r h mF m aux led A a lc lr s Q E M P
  cases h
  exact isTrue_or_nil (P led s.heap s.toks _ (List.prefix_refl _) M rfl)
theorem sb_and {e : Expr} {es : List Expr} {pos : Pos} {e1 e2 : EFb} (h1 : SB C f n e e1) (h2 : SB C f n (.BoolOp .And es pos) e2) : SB C f n (.BoolOp .And (e :: es) pos) (andB e1 e2) := by
  refine ⟨?_⟩
  intro le σ r h mF m aux led A a lc lr s Q E M P
  refine isTrue_and (compose h (fun r1 q => h1.p le σ r1 q mF m aux led A a lc lr) M P fun x σ1 led1 hp1 tk1 b hk p1 M1 R1 P1 => ?_)
  subst R1
  cases x with
  | true => exact h2.p le σ1 r hk mF m aux led1 A a lc (lr.mono p1) _ _ _ M1 P1
  | false => cases hk; exact P1 led1 hp1 tk1 _ (List.prefix_refl _) M1 rfl
theorem sb_or {e : Expr} {es : List Expr} {pos : Pos} {e1 e2 : EFb} (h1 : SB C f n e e1) (h2 : SB C f n (.BoolOp .Or es pos) e2) : SB C f n (.BoolOp .Or (e :: es) pos) (orB e1 e2) := by
  refine ⟨?_⟩
  intro le σ r h mF m aux led A a lc lr s Q E M P
  refine isTrue_or (compose h (fun r1 q => h1.p le σ r1 q mF m aux led A a lc lr) M P fun x σ1 led1 hp1 tk1 b hk p1 M1 R1 P1 => ?_)
  subst R1
  cases x with
  | false => exact h2.p le σ1 r hk mF m aux led1 A a lc (lr.mono p1) _ _ _ M1 P1
  | true => cases hk; exact P1 led1 hp1 tk1 _ (List.prefix_refl _) M1 rfl
theorem se_not (ok : FmOk C f) {e : Expr} {pos : Pos} {e1 : EF} (h1 : SE C f n e e1) : SE C f n (.UnaryOp .Not e pos) (notE e1) := by
  refine ⟨?_⟩
  intro le σ r h mF m aux led A a lc lr s Q E M P
  refine wpAny_UnaryOp (compose h (fun r1 q => h1.p le σ r1 q mF m aux led A a lc lr) M P fun x σ1 led1 hp1 tk1 b hk p1 M1 R1 P1 => ?_)
  refine not_of (compose hk (fun r1 q => tru_ok ok x σ1 _ q A mF aux led1 _ a R1) M1 P1 fun y σ2 led2 hp2 tk2 b2 hk2 p2 M2 R2 P2 => ?_)
  cases hk2
  exact P2 led2 hp2 tk2 _ (List.prefix_refl _) M2 (by rw [R2]; rfl)
theorem se_neg {e : Expr} {pos : Pos} {e1 : EF} (h1 : SE C f n e e1) : SE C f n (.UnaryOp .USub e pos) (negE e1) := by
  refine ⟨?_⟩
  intro le σ r h mF m aux led A a lc lr s Q E M P
  refine wpAny_UnaryOp (compose h (fun r1 q => h1.p le σ r1 q mF m aux led A a lc lr) M P fun x σ1 led1 hp1 tk1 b hk p1 M1 R1 P1 => ?_)
  unfold negV at hk
  split at hk
  · cases hk
    obtain ⟨t, rfl⟩ := R1.int_inv
    exact PyProof.Rows.neg_int (P1 led1 hp1 _ _ (List.prefix_refl _) M1 rfl)
  · cases hk
theorem se_and (ok : FmOk C f) {l r : Expr} {pos : Pos} {e1 e2 : EF} (h1 : SE C f n l e1) (h2 : SE C f n r e2) : SE C f n (.BoolOp .And [l, r] pos) (andE e1 e2) := by
  refine ⟨?_⟩
  intro le σ r h mF m aux led A a lc lr s Q E M P
  refine wpAny_And2 (compose h (fun r1 q => h1.p le σ r1 q mF m aux led A a lc lr) M P fun x σ1 led1 hp1 tk1 b hk p1 M1 R1 P1 => ?_)
  refine compose hk (fun r1 q => tru_ok ok x σ1 _ q A mF aux led1 _ a R1) M1 P1 fun y σ2 led2 hp2 tk2 b2 hk2 p2 M2 R2 P2 => ?_
  subst R2
  cases y with
  | true => exact h2.p le σ2 r hk2 mF m aux led2 A a lc ((lr.mono p1).mono p2) _ _ _ M2 P2
  | false => cases hk2; exact P2 led2 hp2 tk2 _ (List.prefix_refl _) M2 (R1.mono p2)
theorem se_or (ok : FmOk C f) {l r : Expr} {pos : Pos} {e1 e2 : EF} (h1 : SE C f n l e1) (h2 : SE C f n r e2) : SE C f n (.BoolOp .Or [l, r] pos) (orE e1 e2) := by
  refine ⟨?_⟩
  intro le σ r h mF m aux led A a lc lr s Q E M P
  refine wpAny_Or2 (compose h (fun r1 q => h1.p le σ r1 q mF m aux led A a lc lr) M P fun x σ1 led1 hp1 tk1 b hk p1 M1 R1 P1 => ?_)
  refine compose hk (fun r1 q => tru_ok ok x σ1 _ q A mF aux led1 _ a R1) M1 P1 fun y σ2 led2 hp2 tk2 b2 hk2 p2 M2 R2 P2 => ?_
  subst R2
  cases y with
  | false => exact h2.p le σ2 r hk2 mF m aux led2 A a lc ((lr.mono p1).mono p2) _ _ _ M2 P2
  | true => cases hk2; exact P2 led2 hp2 tk2 _ (List.prefix_refl _) M2 (R1.mono p2)
theorem se_ite {c x y : Expr} {pos : Pos} {e0 : EFb} {e1 e2 : EF} (h0 : SB C f n c e0) (h1 : SE C f n x e1) (h2 : SE C f n y e2) : SE C f n (.IfExp c x y pos) (iteE e0 e1 e2) := by
  refine ⟨?_⟩
  intro le σ r h mF m aux led A a lc lr s Q E M P
  refine wpAny_IfExp (compose h (fun r1 q => h0.p le σ r1 q mF m aux led A a lc lr) M P fun x σ1 led1 hp1 tk1 b hk p1 M1 R1 P1 => ?_)
  subst R1
  cases x with
  | true => exact h1.p le σ1 r hk mF m aux led1 A a lc (lr.mono p1) _ _ _ M1 P1
  | false => exact h2.p le σ1 r hk mF m aux led1 A a lc (lr.mono p1) _ _ _ M1 P1
theorem ss_nil {pos : Pos} : SEs C f n pos [] nilS := by
  refine ⟨?_⟩
  intro le σ r h mF m aux led A a lc lr s Q E M P
  cases h
  exact spliced_none (P led s.heap s.toks _ (List.prefix_refl _) M trivial)
theorem ss_cons {e : Expr} {es : List Expr} {pos : Pos} {e1 : EF} {e2 : EFs} (h1 : SE C f n e e1) (h2 : SEs C f n pos es e2) (he : starEach (e :: es) f.env = (false, eval e f.env) :: starEach es f.env) : SEs C f n pos (e :: es) (consS e1 e2) := by
  refine ⟨?_⟩
  intro le σ r h mF m aux led A a lc lr s Q E M P
  refine spliced_more (compose h (fun r1 q => h1.p le σ r1 q mF m aux led A a lc lr) M P fun x σ1 led1 hp1 tk1 b hk p1 M1 R1 P1 => ?_) he
  refine compose hk (fun r1 q => h2.p le σ1 r1 q mF m aux led1 A a lc (lr.mono p1)) M1 P1 fun y σ2 led2 hp2 tk2 b2 hk2 p2 M2 R2 P2 => ?_
  cases hk2
  exact P2 led2 hp2 tk2 _ (List.prefix_refl _) M2 ⟨R1.mono p2, R2⟩
theorem se_list {es : List Expr} {pos : Pos} {e1 : EFs} (h1 : SEs C f n pos es e1) : SE C f n (.List es pos) (listE e1) := by
  refine ⟨?_⟩
  intro le σ r h mF m aux led A a lc lr s Q E M P
  refine List_ (compose h (fun r1 q => h1.p le σ r1 q mF m aux led A a lc lr) M P fun x σ1 led1 hp1 tk1 b hk p1 M1 R1 P1 => ?_)

  split at hk
  · rename_i hz
    cases hk
    refine newList_N M1.fr M1.nw (fun h' F' N' => ?_) (by rw [sizeLine_is, ← R1.length]; exact hz)
    obtain ⟨M', p', v'⟩ := new_obj (o := .list x) M1 F' N' ⟨b, 0, rfl, R1.imp fun _ _ => VR.mono (List.prefix_append _ _), by rw [sizeLine_is]; exact hz⟩
    exact P1 _ _ _ _ p' M' v'
  · cases hk
theorem se_tup {es : List Expr} {k : Nat} {pos : Pos} {e1 : EFs} (h1 : SEs C f n pos es e1) : SE C f n (.Tuple es k pos) (tupE e1) := by
  refine ⟨?_⟩
  intro le σ r h mF m aux led A a lc lr s Q E M P
  refine Tuple_ (compose h (fun r1 q => h1.p le σ r1 q mF m aux led A a lc lr) M P fun x σ1 led1 hp1 tk1 b hk p1 M1 R1 P1 => ?_)

  split at hk
  · rename_i hz
    cases hk
    refine newTuple_N M1.fr M1.nw (fun h' F' N' => ?_) (by rw [sizeLine_is, ← R1.length]; exact hz)
    obtain ⟨M', p', v'⟩ := new_obj (o := .tup x) M1 F' N' ⟨b, 0, rfl, R1.imp fun _ _ => VR.mono (List.prefix_append _ _), by rw [sizeLine_is]; exact hz⟩
    exact P1 _ _ _ _ p' M' v'
  · cases hk
end
end Mine

end
section
open PySem PySem.W PyProof.Rows PySem.Calls PySem.Spec PyProof.V PySem.SeqAt
set_option linter.unusedSimpArgs false
set_option autoImplicit false
set_option Elab.async false
namespace Mine
/-! ## items -/
def idx (n : Nat) (i : Int) : Option Nat := if 0 ≤ i then (if i < n then some i.toNat else none) else (if -(n : Int) ≤ i then some (i + n).toNat else none)
def getV (T : Tab) (a i : V) (σ : St) : Option (Rs V) := match a, i with
  | .ref k, .int i => match σ[k]? with
    | some (.list vs) => (idx vs.length i).bind fun j => vs[j]?.map (.ok · σ)
    | some (.tup vs) => (idx vs.length i).bind fun j => vs[j]?.map (.ok · σ)
    | some (.dict kvs _) => (kvs.find? fun p => p.1 == i).map fun p => .ok p.2 σ
    | _ => none
  | .glob a, .int i => (T.tups a).bind fun vs => (idx vs.length i).bind fun j => vs[j]?.map (.ok · σ)
  | _, _ => none
section
variable {C : Ctx} {f : Fm} {n : Nat}
theorem valueAt_of {ρ : List Addr} {i : Int} : ∀ {kvs : List (Int × V)} {kv : List (Int × Value)} {p : Int × V}, All2 (KvR ρ) kvs kv → (kvs.find? fun p => p.1 == i) = some p → ∃ v, valueAt kv i = some v ∧ VR ρ p.2 v
  | [], [], _, _, e => by simp at e
  | [], _ :: _, _, h, _ => h.elim
  | _ :: _, [], _, h, _ => h.elim
  | (a, x) :: kvs, (b, y) :: kv, p, h, e => by
    have hab : a = b := h.1.1
    subst hab
    rw [List.find?_cons] at e
    by_cases hi : a = i
    · simp only [hi, beq_self_eq_true] at e
      cases e
      exact ⟨y, by simp [valueAt, hi], h.1.2⟩
    · have e' : (a == i) = false := by simpa using hi
      simp only [e'] at e
      obtain ⟨v, h1, h2⟩ := valueAt_of h.2 e
      exact ⟨v, by simp only [valueAt, List.find?_cons, hi, decide_false] at h1 ⊢; exact h1, h2⟩
theorem idx_case {n : Nat} {i : Int} {j : Nat} (h : idx n i = some j) : (0 ≤ i ∧ i < n ∧ j = i.toNat) ∨ (i < 0 ∧ -(n : Int) ≤ i ∧ j = (i + n).toNat) := by
  unfold idx at h
  split at h
  · rename_i h0
    split at h
    · rename_i h1; cases h; exact .inl ⟨h0, h1, rfl⟩
    · cases h
  · rename_i h0
    split at h
    · rename_i h1; cases h; exact .inr ⟨by omega, h1, rfl⟩
    · cases h
theorem idx_seq {n : Nat} {i : Int} {j : Nat} (h : idx n i = some j) : seqIndex? i n = some j := by
  rcases idx_case h with ⟨h0, h1, rfl⟩ | ⟨h0, h1, rfl⟩
  · unfold seqIndex?
    have : ¬ i < 0 := by omega
    simp [this, h0, h1]
  · exact seqIndex_neg h0 h1
theorem getItem_list_at {l : Addr} {its : List Value} {vs : List V} {ρ : List Addr} {i : Int} {t : Tok} {j : Nat} {v : V} {A : Around} {s : Shared} {Q : Value → Shared → Prop} {E : Value → Shared → Prop} (hl : s.heap.IsList l its.toArray) (h2 : All2 (VR ρ) vs its) (h3 : vs.length ≤ sizeLine)
    (hi : idx vs.length i = some j) (hv : vs[j]? = some v) (h : ∀ val, VR ρ v val → Q val s) : wpAny (model C.prog C.w) A (getItem (.ref l) (.int i t)) Q E s := by
  have z := size_of h2 h3
  have e := h2.length
  obtain ⟨val, hval, hr⟩ := h2.get hv
  rcases idx_case hi with ⟨h0, h1, rfl⟩ | ⟨h0, h1, rfl⟩
  · exact wpAny_getItem_list hl h0 (by omega) (by simpa using hval) (h _ hr)
  · exact wpAny_getItem_list_neg hl h0 (by simp; omega) (by omega) (by simp only [List.size_toArray, ← e]; simpa using hval) (h _ hr)
theorem tail_list {value slice : Expr} {l : Addr} {its : List Value} {i : Value} {A : Around} {s : Shared} {Q : Value → Shared → Prop} {E : Value → Shared → Prop} (hl : s.heap.IsList l its.toArray) (hsl : ∀ o i, subscripted slice false o i = operate [o, i] (getItem o i))
    (h : wpAny (model C.prog C.w) A (getItem (.ref l) i) Q E s) : wpAny (model C.prog C.w) A (subscriptTail value slice (.ref l) i) Q E s :=
  tail_any hl.typeIs PySem.F.slot_list_getitem.lookup h (hsl _ _)
theorem sub_ok {T : Tab} (ok : FmOk C f) (tk : TabOk C T) {value slice : Expr} (hsl : ∀ o i, subscripted slice false o i = operate [o, i] (getItem o i)) : P2 C f n VR (fun a b => subscriptTail value slice a b) (getV T) := by
  intro a i σ r h A mF aux led va vi aok ra ri
  unfold getV at h
  split at h
  · rename_i k i
    obtain ⟨t, rfl⟩ := ri.int_inv
    split at h
    · rename_i vs e
      obtain ⟨j, hj, h⟩ := Option.bind_eq_some_iff.mp h
      obtain ⟨v, hv, rfl⟩ := Option.map_eq_some_iff.mp h
      intro s Q E M P
      obtain ⟨a, its, m, rfl, h1, h2, h3, h4⟩ := list_at M e ra
      exact tail_list h4 hsl (getItem_list_at h4 h2 h3 hj hv fun val hr => P led s.heap s.toks _ (List.prefix_refl _) M hr)
    · rename_i vs e
      obtain ⟨j, hj, h⟩ := Option.bind_eq_some_iff.mp h
      obtain ⟨v, hv, rfl⟩ := Option.map_eq_some_iff.mp h
      intro s Q E M P
      obtain ⟨a, its, m, rfl, h1, h2, h3, h4⟩ := tup_at M e ra
      have z := size_of h2 h3
      have e := h2.length
      obtain ⟨val, hval, hr⟩ := h2.get hv
      have hc := idx_case hj
      exact tail_any h4.typeIs PySem.F.slot_tuple_getitem.lookup (PyProof.Rows.getItem_tuple h4 (by omega) (by omega) (by rw [List.size_toArray, ← e]; exact idx_seq hj) (by simpa using hval) (P led s.heap s.toks _ (List.prefix_refl _) M hr)) (hsl _ _)
    · rename_i kvs e
      obtain ⟨p, hp, rfl⟩ := Option.map_eq_some_iff.mp h
      intro s Q E M P
      obtain ⟨a, ob, kv, rfl, h1, h2, h3, h4, h5, h6⟩ := dict_at ok M e ra
      obtain ⟨v, hv, hr⟩ := valueAt_of h3 hp
      exact tail_any h5.typeIs PySem.slot_dict_getitem.lookup (wpAny_getItem_of (knd := intKind C.prog C.w) (k := i) (by simp [intKind, Value.isInt]) h5.mapOf hv (P led s.heap _ _ (List.prefix_refl _) M hr)) (hsl _ _)
    · cases h
  · rename_i x i
    obtain ⟨t, rfl⟩ := ri.int_inv
    obtain rfl := ra.glob_inv
    obtain ⟨vs, ht, h⟩ := Option.bind_eq_some_iff.mp h
    obtain ⟨j, hj, h⟩ := Option.bind_eq_some_iff.mp h
    obtain ⟨v, hv, rfl⟩ := Option.map_eq_some_iff.mp h
    intro s Q E M P
    obtain ⟨its, m, dd, sl, hl, h2, h3⟩ := tk.tup _ _ ht
    have z := size_of h2 h3
    have e := h2.length
    obtain ⟨val, hval, hr⟩ := h2.get hv
    have hc := idx_case hj
    have h4 : IsTup s.heap x its.toArray := tupK (ok.X.keeps M.fr.keep) hl
    exact tail_any h4.typeIs PySem.F.slot_tuple_getitem.lookup (PyProof.Rows.getItem_tuple h4 (by omega) (by omega) (by rw [List.size_toArray, ← e]; exact idx_seq hj) (by simpa using hval) (P led s.heap s.toks _ (List.prefix_refl _) M (hr.mono List.nil_prefix))) (hsl _ _)
  · cases h
def subE (T : Tab) (e1 e2 : EF) : EF := fun le σ => bindR (e1 le σ) fun a σ1 => bindR (e2 le σ1) fun b σ2 => getV T a b σ2
theorem se_sub {T : Tab} (ok : FmOk C f) (tk : TabOk C T) {l r : Expr} {pos : Pos} {e1 e2 : EF} (h1 : SE C f n l e1) (h2 : SE C f n r e2) (hsl : ∀ o i, subscripted r false o i = operate [o, i] (getItem o i)) : SE C f n (.Subscript l r pos) (subE T e1 e2) := by
  refine ⟨?_⟩
  intro le σ r h mF m aux led A a lc lr s Q E M P
  refine PyProof.Rows.Subscript_ (compose h (fun r1 q => h1.p le σ r1 q mF m aux led A a lc lr) M P fun x σ1 led1 hp1 tk1 b hk p1 M1 R1 P1 => ?_)
  refine compose hk (fun r1 q => h2.p le σ1 r1 q mF m aux led1 A a lc (lr.mono p1)) M1 P1 fun y σ2 led2 hp2 tk2 b2 hk2 p2 M2 R2 P2 => ?_
  exact sub_ok ok tk hsl x y σ2 _ hk2 A mF aux led2 _ _ a (R1.mono p2) R2 _ _ _ M2 P2

/-! ### slices -/
def cutV (vs : List V) (lo hi : Option Int) : List V := (vs.drop (kms_lo lo vs.length)).take (kms_hi hi vs.length - kms_lo lo vs.length)
def partV : V → Option (Option Int)
  | .none => some none
  | .int i => some (some i)
  | _ => none
def sliceV (T : Tab) (a lo hi : V) (σ : St) : Option (Rs V) := match a with
  | .ref k => match σ[k]? with
    | some (.list vs) => (partV lo).bind fun l => (partV hi).map fun h => .ok (.ref σ.length) (σ ++ [.list (cutV vs l h)])
    | _ => none
  | .glob g => match lo, hi with
    | .int i, .none => (T.tups g).bind fun vs => if i = 0 then some (.ok (.glob g) σ) else if 0 < i ∧ i ≤ vs.length then some (.ok (.ref σ.length) (σ ++ [.tup (vs.drop i.toNat)])) else none
    | _, _ => none
  | _ => none
def revV (a : V) (σ : St) : Option (Rs V) := match a with
  | .ref k => match σ[k]? with
    | some (.list vs) => some (.ok (.ref σ.length) (σ ++ [.list vs.reverse]))
    | _ => none
  | _ => none
theorem partV_is {ρ : List Addr} {a : V} {v : Value} {p : Option Int} (h : partV a = some p) (r : VR ρ a v) : IsPart v p := by
  cases a <;> first | (cases h; done) | skip
  · cases h; obtain rfl := r.none_inv; exact .none
  · cases h; obtain ⟨t, rfl⟩ := r.int_inv; exact .int _ _
/-- two new objects, the first one of no concern -/
theorem new_obj2 {mF : Str → Option Value} {aux led : Led} {σ : St} {s : Shared} {o₁ ob : Obj} {o : O} (M : MemC C f mF aux led σ s.heap) (hf : ob.isFreed = false) (r : ObjR C.prog C.w (ats led ++ [s.heap.objs.size + 1]) o ob) :
    ∃ led', MemC C f mF aux led' (σ ++ [o]) ((s.heap.push o₁).push ob) ∧ ats led <+: ats led' ∧ VR (ats led') (.ref σ.length) (.ref (s.heap.objs.size + 1)) := by
  have M1 : MemC C f mF aux led σ (s.heap.push o₁) := M.keeps fun b o e => Heap.get?_push_of_some _ e
  have sz : (s.heap.push o₁).objs.size = s.heap.objs.size + 1 := Heap.size_push ..
  have F2 := M1.fr.push ob
  have N2 := News.push M1.fr M1.nw ob hf
  have z := new_obj (s := { s with heap := s.heap.push o₁ }) (o := o) M1 F2 N2 (by rw [sz]; exact r)
  refine ⟨_, z.1, z.2.1, ?_⟩
  have := z.2.2
  simp only [sz] at this ⊢
  exact this
theorem getItem_tuple_all {t sl : Addr} {items : Array Value} {u : Tok} {Q : Value → Shared → Prop} {A : Around} {E : Value → Shared → Prop} {s : Shared} (ht : IsTup s.heap t items) (hs : s.heap.IsSliceOf sl (.int 0 u) .none .none)
    (h : Q (.ref t) s) : wpAny (model C.prog C.w) A (getItem (.ref t) (.ref sl)) Q E s := by
  obtain ⟨os, hos, hcs, hds⟩ := id hs
  have hTs : s.TypeIs (.ref sl) "slice" := ⟨os, hos, hcs⟩
  unfold getItem
  try with_reducible refine wpAny_holding ?_
  first | refine wpAny_bind (wpAny_pure ?_) | skip
  refine wpAny_bind (wpAny_sequenceKey ht.typeIs (by decide) ?_)
  refine wpAny_bind (wpAny_callSpecial?_slot (name := Str.ofString "__getitem__") ht.typeIs PySem.F.slot_tuple_getitem
    (wpAny_call_entry PySem.F.slot_tuple_getitem ht.typeIs PySem.F.entry_tuple_getitem ?_ (PySem.F.args_tuple_getitem_2 _ _)))
  show wpAny _ _ (Builtin.Tuple.tupleItemsOf (.ref t) >>= _) _ _ s
  refine wpAny_bind (tupleItemsOf_ ht ?_)
  refine wpAny_bind (wpAny_typeOf hTs ?_)
  rw [if_pos (by decide)]
  refine wpAny_bind (sliceApplied_from (a := 0) hs (Nat.zero_le _) ?_)
  have hyes : ((((0 : Nat) : Int) == 0 && (1 : Int) == 1 && (items.size - 0) == items.size) = true) := by simp
  show wpAny _ _ (if (((0 : Nat) : Int) == 0 && (1 : Int) == 1 && (items.size - 0) == items.size) = true then _ else _) _ _ s
  rw [if_pos hyes]
  refine wpAny_bind (wpAny_bind (wpAny_typeOf ht.typeIs (wpAny_pure ?_)))
  rw [if_pos (by decide)]
  refine wpAny_bind (wpAny_rule ?_)
  refine wpAny_bind (wpAny_pure ?_)
  exact wpAny_pure ⟨_, rfl, wpAny_pure h⟩
theorem isTup_push {h : Heap} {a : Addr} {its : Array Value} (x : IsTup h a its) (o : Obj) : IsTup (h.push o) a its := by
  obtain ⟨ob, h1, h2⟩ := x
  exact ⟨ob, Heap.get?_push_of_some _ h1, h2⟩
/-- the subscript of a slice that has just been made -/
theorem slice_ok {T : Tab} (ok : FmOk C f) (tk : TabOk C T) {value slice : Expr} {ops : Value → Value → List Value} (hsl : ∀ o i, subscripted slice false o i = operate (ops o i) (getItem o i))
    {a lo hi : V} {σ : St} {r : Rs V} (h : sliceV T a lo hi σ = some r) {A : Around} {mF : Str → Option Value} {aux led : Led} {va vl vu : Value} (ra : VR (ats led) a va) (rl : VR (ats led) lo vl) (rh : VR (ats led) hi vu)
    {s : Shared} {Q : Value → Shared → Prop} {E : Value → Shared → Prop} (M : MemC C f mF aux led σ s.heap) (P : PostE C f VR mF aux led s Q E r) :
    wpAny (model C.prog C.w) A (subscriptTail value slice va (.ref s.heap.objs.size)) Q E { s with heap := s.heap.push { cls := .type "slice", data := .fields #[vl, vu, .none] } } := by
  unfold sliceV at h
  split at h
  · rename_i k
    split at h
    · rename_i vs e
      obtain ⟨l, hl, h⟩ := Option.bind_eq_some_iff.mp h
      obtain ⟨u, hu, rfl⟩ := Option.map_eq_some_iff.mp h
      obtain ⟨x, its, m, rfl, h1, h2, h3, h4⟩ := list_at M e ra
      have e2 := h2.length
      refine tail_any (h4.push _).typeIs PySem.F.slot_list_getitem.lookup ?_ (hsl _ _)
      refine wpAny_getItem_list_slice (h4.push _) (Heap.IsSliceOf.new ..) (partV_is hl rl) (partV_is hu rh) .none (by simp) ?_ (by rw [List.size_toArray, ← e2]; exact h3)
      have ec : slicePick its.toArray l u none = (((its.drop (kms_lo l vs.length)).take (kms_hi u vs.length - kms_lo l vs.length))).toArray := by
        rw [kms_pick_eq]; unfold kms_pick; simp only [e2]
      obtain ⟨led', M', p', v'⟩ := new_obj2 (s := s) (o₁ := { cls := .type "slice", data := .fields #[vl, vu, .none] }) (ob := { cls := .type "list", data := .seq (slicePick its.toArray l u none) }) (o := .list (cutV vs l u)) M rfl
        ⟨(its.drop (kms_lo l vs.length)).take (kms_hi u vs.length - kms_lo l vs.length), 0, by rw [ec], ((h2.drop _).take _).imp fun _ _ => VR.mono (List.prefix_append _ _), by
          unfold cutV; rw [List.length_take, List.length_drop]; omega⟩
      rw [Heap.size_push]
      exact P led' _ _ _ p' M' v'
    · cases h
  · rename_i g
    obtain rfl := ra.glob_inv
    split at h
    · rename_i i
      obtain ⟨t, rfl⟩ := rl.int_inv
      obtain rfl := rh.none_inv
      obtain ⟨vs, ht, hh⟩ := Option.bind_eq_some_iff.mp h
      clear h
      obtain ⟨its, m, dd, sl, hl, h2, h3⟩ := tk.tup _ _ ht
      have e2 := h2.length
      have h4 : IsTup s.heap g its.toArray := tupK (ok.X.keeps M.fr.keep) hl
      refine tail_any (isTup_push h4 _).typeIs PySem.F.slot_tuple_getitem.lookup ?_ (hsl _ _)
      split at hh
      · rename_i hi0
        subst hi0
        cases hh
        refine getItem_tuple_all (isTup_push h4 _) (Heap.IsSliceOf.new ..) ?_
        exact P led _ _ _ (List.prefix_refl _) (M.keeps fun b o e => Heap.get?_push_of_some _ e) rfl
      · split at hh
        · rename_i hi1
          cases hh
          obtain ⟨j, rfl⟩ : ∃ j : Nat, i = (j : Int) := ⟨i.toNat, by omega⟩
          refine getItem_tuple_from (a := j) (isTup_push h4 _) (Heap.IsSliceOf.new ..) (by omega) (by rw [List.size_toArray]; omega) ?_ (by rw [List.size_toArray, ← e2]; exact h3)
          obtain ⟨led', M', p', v'⟩ := new_obj2 (s := s) (o₁ := { cls := .type "slice", data := .fields #[.int j t, .none, .none] }) (ob := { cls := .type "tuple", data := .seq (its.drop j).toArray }) (o := .tup (vs.drop j)) M rfl
            ⟨its.drop j, 0, rfl, (h2.drop _).imp fun _ _ => VR.mono List.nil_prefix, by rw [List.length_drop]; omega⟩
          rw [Heap.size_push]
          exact P led' _ _ _ p' M' v'
        · cases hh
    · cases h
  · cases h
theorem rev_ok (ok : FmOk C f) {value slice : Expr} {ops : Value → Value → List Value} (hsl : ∀ o i, subscripted slice false o i = operate (ops o i) (getItem o i))
    {a : V} {σ : St} {r : Rs V} (h : revV a σ = some r) {A : Around} {mF : Str → Option Value} {aux led : Led} {va : Value} {t : Tok} (ra : VR (ats led) a va)
    {s : Shared} {Q : Value → Shared → Prop} {E : Value → Shared → Prop} (M : MemC C f mF aux led σ s.heap) (P : PostE C f VR mF aux led s Q E r) :
    wpAny (model C.prog C.w) A (subscriptTail value slice va (.ref s.heap.objs.size)) Q E { s with heap := s.heap.push { cls := .type "slice", data := .fields #[.none, .none, .int (-1) t] } } := by
  unfold revV at h
  split at h
  · rename_i k
    split at h
    · rename_i vs e
      cases h
      obtain ⟨x, its, m, rfl, h1, h2, h3, h4⟩ := list_at M e ra
      have e2 := h2.length
      refine tail_any (h4.push _).typeIs PySem.F.slot_list_getitem.lookup ?_ (hsl _ _)
      refine wpAny_getItem_list_slice (h4.push _) (Heap.IsSliceOf.new ..) .none .none (.int _ _) (by simp) ?_ (by rw [List.size_toArray, ← e2]; exact h3)
      have ec : slicePick its.toArray none none (some (-1)) = its.reverse.toArray := krv_pick _
      obtain ⟨led', M', p', v'⟩ := new_obj2 (s := s) (o₁ := { cls := .type "slice", data := .fields #[.none, .none, .int (-1) t] }) (ob := { cls := .type "list", data := .seq (slicePick its.toArray none none (some (-1))) }) (o := .list vs.reverse) M rfl
        ⟨its.reverse, 0, by rw [ec], h2.reverse.imp fun _ _ => VR.mono (List.prefix_append _ _), by rw [List.length_reverse]; exact h3⟩
      rw [Heap.size_push]
      exact P led' _ _ _ p' M' v'
    · cases h
  · cases h
def partE : Option EF → EF
  | none => fun _ σ => some (.ok .none σ)
  | some e => e
def SP (C : Ctx) (f : Fm) (n : Nat) : Option Expr → Option EF → Prop
  | none, none => True
  | some e, some ev => SE C f n e ev
  | _, _ => False
theorem part_ok {p : Option Expr} {ev : Option EF} (h : SP C f n p ev) : ∀ le σ r, partE ev le σ = some r → EvT C f VR n (evalPart p f.env) le σ r := by
  intro le σ r h'
  cases p with
  | none =>
    cases ev with
    | none =>
      cases h'
      intro mF m aux led A a lc lr s Q E M P
      exact evalPart_none_step (P led s.heap s.toks _ (List.prefix_refl _) M trivial)
    | some _ => exact h.elim
  | some e =>
    cases ev with
    | none => exact h.elim
    | some ev => exact SE.p h le σ r h'
def sliceE (T : Tab) (e : EF) (lo hi : Option EF) : EF := fun le σ => bindR (e le σ) fun a σ1 => bindR (partE lo le σ1) fun l σ2 => bindR (partE hi le σ2) fun u σ3 => sliceV T a l u σ3
theorem se_slice {T : Tab} (ok : FmOk C f) (tk : TabOk C T) {v : Expr} {lo hi : Option Expr} {p pos : Pos} {e1 : EF} {e2 e3 : Option EF} (h1 : SE C f n v e1) (h2 : SP C f n lo e2) (h3 : SP C f n hi e3) :
    SE C f n (.Subscript v (.Slice lo hi none p) pos) (sliceE T e1 e2 e3) := by
  refine ⟨?_⟩
  intro le σ r h mF m aux led A a lc lr s Q E M P
  refine PyProof.Rows.Subscript_ (compose h (fun r1 q => h1.p le σ r1 q mF m aux led A a lc lr) M P fun x σ1 led1 hp1 tk1 b hk p1 M1 R1 P1 => ?_)
  refine wpAny_Slice (compose hk (fun r1 q => part_ok h2 le σ1 r1 q mF m aux led1 A a lc (lr.mono p1)) M1 P1 fun y σ2 led2 hp2 tk2 b2 hk2 p2 M2 R2 P2 => ?_)
  refine compose hk2 (fun r1 q => part_ok h3 le σ2 r1 q mF m aux led2 A a lc ((lr.mono p1).mono p2)) M2 P2 fun z σ3 led3 hp3 tk3 b3 hk3 p3 M3 R3 P3 => ?_
  refine evalPart_none_step ?_
  exact slice_ok (s := { s with heap := hp3, toks := tk3 }) (ops := fun o i => [i, o]) ok tk (fun _ _ => rfl) hk3 ((R1.mono p2).mono p3) (R2.mono p3) R3 M3 P3
def revE (e : EF) : EF := fun le σ => bindR (e le σ) revV
theorem se_rev (ok : FmOk C f) {v : Expr} {k : Nat} {p p2 p3 pos : Pos} {e1 : EF} (h1 : SE C f n v e1) :
    SE C f n (.Subscript v (.Slice none none (some (.UnaryOp .USub (.Constant (.int 1) k p) p2)) p3) pos) (revE e1) := by
  refine ⟨?_⟩
  intro le σ r h mF m aux led A a lc lr s Q E M P
  refine PyProof.Rows.Subscript_ (compose h (fun r1 q => h1.p le σ r1 q mF m aux led A a lc lr) M P fun x σ1 led1 hp1 tk1 b hk p1 M1 R1 P1 => ?_)
  refine wpAny_Slice (evalPart_none_step (evalPart_none_step (evalPart_some_step ?_)))
  refine wpAny_UnaryOp (wpAny_Constant_int ?_)
  refine PyProof.Rows.neg_int ?_
  exact rev_ok (s := { s with heap := hp1, toks := _ }) (ops := fun o i => [o, i]) ok (fun _ _ => rfl) hk R1 M1 P1
end
end Mine

end
section
open PySem PySem.W PyProof.Rows PySem.Calls PySem.Spec PyProof.V PySem.SeqAt
set_option linter.unusedSimpArgs false
set_option autoImplicit false
set_option Elab.async false
namespace Mine
/-! ## attributes -/
def plainV : V → Bool
  | .bi _ => false
  | _ => true
def attrV (T : Tab) (i : Nat) (a : V) (σ : St) : Option (Rs V) := match a with
  | .ref k => match σ[k]? with
    | some (.inst c d) => if T.isCls c then (match σ[d]? with
        | some (.ns fs) => if i < nmN then (fs.find? fun p => p.1 == i).bind fun p => if plainV p.2 then some (.ok p.2 σ) else none else none
        | _ => none) else none
    | _ => none
  | _ => none
/-- the property -/
def propV (T : Tab) (call : CallF) (a : V) (σ : St) : Option (Rs V) := match a with
  | .ref k => match σ[k]? with
    | some (.inst c d) => if T.isCls c then (match σ[d]?, T.prop c with
        | some (.ns _), some (g, _) => (match call g [.ref k] σ with
          | some (.ok v σ') => if plainV v then some (.ok v σ') else none
          | _ => none)
        | _, _ => none) else none
    | _ => none
  | _ => none
def putF (i : Nat) (v : V) : List (Nat × V) → List (Nat × V)
  | [] => [(i, v)]
  | p :: r => if p.1 = i then (i, v) :: r else p :: putF i v r
def setAttrV (T : Tab) (i : Nat) (a v : V) (σ : St) : Option (Rs Unit) := match a with
  | .ref k => match σ[k]? with
    | some (.inst c d) => if T.isCls c then (match σ[d]? with
        | some (.ns fs) => if i < nmN ∧ fs.length < 500 then some (.ok () (σ.set d (.ns (putF i v fs)))) else none
        | _ => none) else none
    | _ => none
  | _ => none
def setPropV (T : Tab) (call : CallF) (a v : V) (σ : St) : Option (Rs Unit) := match a with
  | .ref k => match σ[k]? with
    | some (.inst c d) => if T.isCls c then (match σ[d]?, T.prop c with
        | some (.ns _), some (_, g) => bindR (call g [.ref k, v] σ) fun _ σ' => some (.ok () σ')
        | _, _ => none) else none
    | _ => none
  | _ => none
theorem handed_of {ρ : List Addr} {x : V} {v : Value} (r : VR ρ x v) (h : plainV x = true) : handedIn v = true := by
  cases v <;> first | rfl | skip
  cases x <;> first | exact r.elim | cases h
section
variable {C : Ctx} {f : Fm} {n : Nat}
theorem isStr_nm {i j : Nat} {t : Tok} (hi : i < nmN) (hj : j < nmN) : (Value.str (nm j) t).isStr (nm i) = decide (j = i) := by
  show (nm j == nm i) = _
  by_cases h : j = i
  · subst h; simp
  · have : nm j ≠ nm i := fun e => h (nm_inj _ hj _ hi e)
    simp [h, this]
theorem getL_of {ρ : List Addr} {i : Nat} (hi : i < nmN) : ∀ {fs : List (Nat × V)} {es : List DictEntry}, All2 (EntR ρ) fs es → ∀ {p : Nat × V}, (fs.find? fun p => p.1 == i) = some p → ∃ v, getL (nm i) es = some (some v) ∧ VR ρ p.2 v
  | [], [], _, _, e => by simp at e
  | [], _ :: _, h, _, _ => h.elim
  | _ :: _, [], h, _, _ => h.elim
  | q :: fs, en :: es, h, p, e => by
    obtain ⟨⟨h1, ⟨t, h2⟩, h3⟩, h4⟩ := h
    rw [List.find?_cons] at e
    have k : en.key.isStr (nm i) = decide (q.1 = i) := by rw [h2]; exact isStr_nm hi h1
    by_cases hq : q.1 = i
    · simp only [hq, beq_self_eq_true] at e
      cases e
      exact ⟨en.val, by unfold getL; rw [List.find?_cons, k]; simp [hq], h3⟩
    · have e' : (q.1 == i) = false := by simpa using hq
      simp only [e'] at e
      obtain ⟨v, a, b⟩ := getL_of hi h4 e
      refine ⟨v, ?_, b⟩
      unfold getL at a ⊢
      rw [List.find?_cons, k, decide_eq_false hq]
      have hr : en.refKey = false := by unfold DictEntry.refKey; rw [h2]
      simpa [hr] using a
theorem getL_off {ρ : List Addr} {x : Str} (hx : ∀ i, i < nmN → nm i ≠ x) : ∀ {fs : List (Nat × V)} {es : List DictEntry}, All2 (EntR ρ) fs es → getL x es = some none
  | [], [], _ => rfl
  | [], _ :: _, h => h.elim
  | _ :: _, [], h => h.elim
  | q :: fs, en :: es, h => by
    obtain ⟨⟨h1, ⟨t, h2⟩, h3⟩, h4⟩ := h
    have k : en.key.isStr x = false := by
      rw [h2]; show (nm q.1 == x) = false
      have : nm q.1 ≠ x := hx _ h1
      simp [this]
    have a := getL_off hx h4
    unfold getL at a ⊢
    rw [List.find?_cons, k]
    have hr : en.refKey = false := by unfold DictEntry.refKey; rw [h2]
    simpa [hr] using a
theorem putL_of {ρ : List Addr} {i : Nat} (hi : i < nmN) {hsh : Int} {tk : Tok} {x : V} {v : Value} (r : VR ρ x v) : ∀ {fs : List (Nat × V)} {es : List DictEntry}, All2 (EntR ρ) fs es → All2 (EntR ρ) (putF i x fs) (putL (nm i) hsh (.str (nm i) tk) v es)
  | [], [], _ => ⟨⟨hi, ⟨tk, rfl⟩, r⟩, trivial⟩
  | [], _ :: _, h => h.elim
  | _ :: _, [], h => h.elim
  | q :: fs, en :: es, h => by
    obtain ⟨⟨h1, ⟨t, h2⟩, h3⟩, h4⟩ := h
    have k : en.key.isStr (nm i) = decide (q.1 = i) := by rw [h2]; exact isStr_nm hi h1
    unfold putF putL
    rw [k]
    by_cases hq : q.1 = i
    · rw [if_pos hq, if_pos (decide_eq_true hq)]
      exact ⟨⟨hi, ⟨t, by rw [← hq]; exact h2⟩, r⟩, h4⟩
    · rw [if_neg hq, if_neg (by simpa using hq)]
      exact ⟨⟨h1, ⟨t, h2⟩, h3⟩, putL_of hi r h4⟩
theorem putF_len (i : Nat) (v : V) : ∀ fs : List (Nat × V), (putF i v fs).length ≤ fs.length + 1
  | [] => by simp [putF]
  | p :: r => by
    unfold putF
    split
    · simp
    · have := putF_len i v r
      simp only [List.length_cons]; omega

theorem attr_ok {T : Tab} (ok : FmOk C f) (tk : TabOk C T) (i : Nat) {expr : Bool} : P1 C f n VR (fun a => getAttr a (nm i) expr) (attrV T i) := by
  intro a σ r h A mF aux led va aok ra
  unfold attrV at h
  split at h <;> first | (cases h; done) | skip
  split at h <;> first | (cases h; done) | skip
  rename_i k c d e1
  split at h <;> first | (cases h; done) | skip
  rename_i hc
  split at h <;> first | (cases h; done) | skip
  rename_i fs e2
  split at h <;> first | (cases h; done) | skip
  rename_i hi
  obtain ⟨p, hp, h⟩ := Option.bind_eq_some_iff.mp h
  split at h <;> first | (cases h; done) | skip
  rename_i hv
  cases h
  intro s Q E M P
  obtain ⟨x, dx, es, m, rfl, h1, h2, h3, I⟩ := inst_at M e1 e2 ra
  obtain ⟨v, g1, g2⟩ := getL_of hi h3 hp
  have K := tk.cls c hc
  exact get_own (C := c) M.fr ok.X I (K.get _) K.dict (K.fld i hi) rfl g1 (handed_of g2 hv) (P led s.heap _ _ (List.prefix_refl _) M g2)
theorem AOk.in1 {A : Around} (a : AOk f (n + 1) A) : AOk f n A.in1 := ⟨a.frames, a.handled, by have := a.depth; show A.depth + 2 * n < _; omega, by have := a.units; show A.units + 1 + 16 * n + 200 ≤ 9900; omega⟩
theorem AOk.in2 {A : Around} (a : AOk f (n + 1) A) : AOk f n A.in1.in1 := ⟨a.frames, a.handled, by have := a.depth; show A.depth + 2 * n < _; omega, by have := a.units; show A.units + 1 + 1 + 16 * n + 200 ≤ 9900; omega⟩
theorem bindR_some {α β : Type} {m : Option (Rs α)} {k : α → St → Option (Rs β)} {r : Rs β} (h : bindR m k = some r) : (∃ a σ, m = some (.ok a σ) ∧ k a σ = some r) ∨ (∃ x σ, m = some (.exc x σ) ∧ r = .exc x σ) := by
  cases m with
  | none => cases h
  | some q => cases q with
    | ok a σ => exact .inl ⟨a, σ, rfl, h⟩
    | exc x σ => cases h; exact .inr ⟨x, σ, rfl, rfl⟩
theorem prop_ok {T : Tab} {call : CallF} (ok : FmOk C f) (tk : TabOk C T) (hc : CallOk C T call n) {expr : Bool} : P1 C f (n + 1) VR (fun a => getAttr a "weight" expr) (propV T call) := by
  intro a σ r h A mF aux led va aok ra
  unfold propV at h
  split at h <;> first | (cases h; done) | skip
  split at h <;> first | (cases h; done) | skip
  rename_i k c d e1
  split at h <;> first | (cases h; done) | skip
  rename_i hcl
  split at h <;> first | (cases h; done) | skip
  rename_i fs g g' e2 hp
  split at h <;> first | (cases h; done) | skip
  rename_i v σ' hcall
  split at h <;> first | (cases h; done) | skip
  rename_i hv
  cases h
  intro s Q E M P
  obtain ⟨x, dx, es, m, rfl, h1, h2, h3, I⟩ := inst_at M e1 e2 ra
  have K := tk.cls c hcl
  obtain ⟨pex, kw1, kw2⟩ := tk.prop c g g' hp
  obtain ⟨p, rest, q1, q2, q3, q4, q5, q6⟩ := pex.ex
  refine get_prop (C := c) M.fr ok.X I (K.get _) K.dict q1 q2 q3 q4 ?_
  have D := hc g _ _ _ hcall f ok A.in1 aok.in1 mF aux led [.ref x] ⟨ra, trivial⟩
  rw [Tab.args_plain kw1] at D
  refine D _ _ M ?_
  intro led' h' tk' val p' M' R'
  show wpAny _ A (handedOut val) Q E _
  rw [handedOut_of (handed_of R' hv)]
  exact wpAny_pure (P led' h' tk' val p' M' R')
theorem setAttr_ok {T : Tab} (ok : FmOk C f) (tk : TabOk C T) (i : Nat) : P2 C f n (fun _ _ _ => True) (fun a v => setAttr a (nm i) v) (setAttrV T i) := by
  intro a v σ r h A mF aux led va vv aok ra rv
  unfold setAttrV at h
  split at h <;> first | (cases h; done) | skip
  split at h <;> first | (cases h; done) | skip
  rename_i k c d e1
  split at h <;> first | (cases h; done) | skip
  rename_i hc
  split at h <;> first | (cases h; done) | skip
  rename_i fs e2
  split at h <;> first | (cases h; done) | skip
  rename_i hi
  cases h
  intro s Q E M P
  obtain ⟨x, dx, es, m, rfl, h1, h2, h3, I⟩ := inst_at M e1 e2 ra
  have K := tk.cls c hc
  have e3 := h3.length
  have hlk : (getL (nm i) es).isSome = true := by
    cases hf : fs.find? (fun p => p.1 == i) with
    | some p => obtain ⟨v, g1, _⟩ := getL_of hi.1 h3 hf; rw [g1]; rfl
    | none =>
      have : ∀ {fs : List (Nat × V)} {es : List DictEntry}, All2 (EntR (ats led)) fs es → (getL (nm i) es).isSome = true := by
        intro fs es hh
        unfold getL
        split
        · rfl
        · have : es.any (·.refKey) = false := by
            rw [List.any_eq_false]
            intro en hen
            obtain ⟨j, hj⟩ := List.getElem?_of_mem hen
            obtain ⟨q, _, hq⟩ := hh.get' hj
            obtain ⟨_, ⟨t, ht⟩, _⟩ := hq
            unfold DictEntry.refKey; rw [ht]; simp
          rw [this]; rfl
      exact this h3
  have U := upd_at M.nd (Mem.left (aux := aux) h2) (o' := dictOf (putL (nm i) (PyData.keyHash C.w.params (nm i)) (Value.str (nm i) (s.toks + 1)) vv es) (putN (nm i) es m))
  refine set_dict (C := c) (x := x) (dx := dx) M.fr ok.X M.nw I rfl K.set K.over (K.tak i hi.1) K.dict hlk rfl U ?_ fun h' F' N' => ?_
  · have a := (putL_of (ρ := ats led) hi.1 (hsh := PyData.keyHash C.w.params (nm i)) (tk := s.toks + 1) rv h3).length
    have b := putF_len i v fs
    omega
  · obtain ⟨M', ek⟩ := M.set (o' := .ns (putF i v fs)) h2 F' N' ⟨_, _, rfl, putL_of hi.1 rv h3⟩
    exact P _ h' _ _ (by rw [ek]; exact List.prefix_refl _) M' trivial
theorem setProp_ok {T : Tab} {call : CallF} (ok : FmOk C f) (tk : TabOk C T) (hc : CallOk C T call n) : P2 C f (n + 1) (fun _ _ _ => True) (fun a v => setAttr a "weight" v) (setPropV T call) := by
  intro a v σ r h A mF aux led va vv aok ra rv
  unfold setPropV at h
  split at h <;> first | (cases h; done) | skip
  split at h <;> first | (cases h; done) | skip
  rename_i k c d e1
  split at h <;> first | (cases h; done) | skip
  rename_i hcl
  split at h <;> first | (cases h; done) | skip
  rename_i fs g g' e2 hp
  intro s Q E M P
  obtain ⟨x, dx, es, m, rfl, h1, h2, h3, I⟩ := inst_at M e1 e2 ra
  have K := tk.cls c hcl
  obtain ⟨pex, kw1, kw2⟩ := tk.prop c g g' hp
  obtain ⟨p, rest, q1, q2, q3, q4, q5, q6⟩ := pex.ex
  refine set_prop (C := c) M.fr ok.X I K.set K.over q5 q6 q4 ?_
  rcases bindR_some h with ⟨v', σ', hcall, h⟩ | ⟨z, σ', hcall, rfl⟩
  · cases h
    have D := hc g' _ _ _ hcall f ok A.in1.in1 aok.in2 mF aux led [.ref x, vv] ⟨ra, rv, trivial⟩
    rw [Tab.args_plain kw2] at D
    refine D _ _ M ?_
    exact fun led' h' tk' val p' M' R' => P led' h' tk' _ p' M' trivial
  · have D := hc g' _ _ _ hcall f ok A.in1.in1 aok.in2 mF aux led [.ref x, vv] ⟨ra, rv, trivial⟩
    rw [Tab.args_plain kw2] at D
    refine D _ _ M ?_
    exact fun led' h' tk' e p' M' => P led' h' tk' e p' M'
end
end Mine

end
section
open PySem PySem.W PyProof.Rows PySem.Calls PySem.Spec PyProof.V PySem.SeqAt
set_option linter.unusedSimpArgs false
set_option linter.unusedVariables false
set_option autoImplicit false
set_option Elab.async false
namespace Mine
/-! ## calls -/
def callE (call : CallF) (g : Nat) (es : EFs) : EF := fun le σ => bindR (es le σ) fun vs σ1 => call g vs σ1
/-- a new instance; g is its __init__ -/
def newV (call : CallF) (c : Addr) (g : Nat) (vs : List V) (σ : St) : Option (Rs V) :=
  bindR (call g (.ref (σ.length + 1) :: vs) (σ ++ [.ns [], .inst c σ.length])) fun v σ' => match v with
    | .none => some (.ok (.ref (σ.length + 1)) σ')
    | _ => none
def newE (call : CallF) (c : Addr) (g : Nat) (es : EFs) : EF := fun le σ => bindR (es le σ) fun vs σ1 => newV call c g vs σ1
def methV (T : Tab) (m : Nat) (a : V) (σ : St) : Option (Nat × Nat) := match a with
  | .ref k => match σ[k]? with
    | some (.inst c d) => if T.isCls c then (match σ[d]?, T.mth c m with
        | some (.ns _), some g => some (k, g)
        | _, _ => none) else none
    | _ => none
  | _ => none
def methE (T : Tab) (call : CallF) (m : Nat) (o : EF) (es : EFs) : EF := fun le σ => bindR (o le σ) fun a σ1 => match methV T m a σ1 with
  | some (k, g) => bindR (es le σ1) fun vs σ2 => call g (.ref k :: vs) σ2
  | none => none
theorem mn_off : ∀ k, k < 16 → ∀ i, i < nmN → nm i ≠ mn k := by decide +kernel
section
variable {C : Ctx} {f : Fm} {n : Nat}
theorem DoesC.code {A : Around} {mF aux led σ} {fv : Value} {vals : List Value} {kw : List (Str × Value)} {r : Rs V} (h : DoesC C f A mF aux led σ (.call fv ⟨vals, kw⟩) r) : Does C f VR A mF aux led σ (call fv vals kw) r := h.does
theorem se_callFn {call : CallF} {T : Tab} (ok : FmOk C f) (hc : CallOk C T call n) {x : Str} {g : Nat} {p pos : Pos} {e : Expr} {es : List Expr} {e2 : EFs}
    (hx : f.env.kindOf x = some .globalImplicit) (hd : (x == ("__debug__" : Str)) = false) (gv : GV C x (.ref (T.addr g))) (hk : keepIn C.K (.ref (T.addr g)) = true) (hkw : T.kw g = none)
    (h2 : SEs C f (n + 1) pos (e :: es) e2) (he : starEach (e :: es) f.env = (false, eval e f.env) :: starEach es f.env) (hpl : (backTo pos (starEach es f.env)).any (·.1) = false) :
    SE C f (n + 1) (.Call (.Name x p) (e :: es) [] pos) (callE call g e2) := by
  refine ⟨?_⟩
  intro le σ r h mF m aux led A a lc lr s Q E M P
  refine wpAny_Call_NameR ((se_glob (v := .glob (T.addr g)) ok hx hd gv rfl).p le σ _ rfl mF m aux led A a lc lr s _ E M ?_)
  intro led1 hp1 tk1 b p1 M1 R1
  obtain rfl := R1.glob_inv
  refine callWith_K ok.X hk (compose h (fun r1 q => h2.p le σ r1 q mF m aux led1 A a lc (lr.mono p1)) M1 (P.step p1) fun y σ2 led2 hp2 tk2 b2 hk2 p2 M2 R2 P2 => ⟨ok.X.keeps M2.fr.keep, ?_⟩) he hpl
  have D := hc g _ _ _ hk2 f ok A (a.le (Nat.le_succ n)) mF aux led2 b2 R2
  rw [Tab.args_plain hkw] at D
  exact D.code _ _ _ M2 P2
theorem se_callFn0 {call : CallF} {T : Tab} (ok : FmOk C f) (hc : CallOk C T call n) {x : Str} {g : Nat} {p pos : Pos}
    (hx : f.env.kindOf x = some .globalImplicit) (hd : (x == ("__debug__" : Str)) = false) (gv : GV C x (.ref (T.addr g))) (hk : keepIn C.K (.ref (T.addr g)) = true) (hkw : T.kw g = none) :
    SE C f (n + 1) (.Call (.Name x p) [] [] pos) (callE call g nilS) := by
  refine ⟨?_⟩
  intro le σ r h mF m aux led A a lc lr s Q E M P
  refine wpAny_Call_NameR ((se_glob (v := .glob (T.addr g)) ok hx hd gv rfl).p le σ _ rfl mF m aux led A a lc lr s _ E M ?_)
  intro led1 hp1 tk1 b p1 M1 R1
  obtain rfl := R1.glob_inv
  refine callWith_K0 (ok.X.keeps M1.fr.keep) hk ?_
  have D := hc g _ _ _ h f ok A (a.le (Nat.le_succ n)) mF aux led1 [] trivial
  rw [Tab.args_plain hkw] at D
  exact D.code _ _ _ M1 (P.step p1)
theorem under_call {A : Around} {c : Addr} {rest : List Value} {kw : List (Str × Value)} : A.under (.builtin "type.__call__" ⟨.ref c :: rest, kw⟩) = { A with depth := A.depth + 1, units := A.units + 1 } := by
  obtain ⟨hd, d, fr, gs, u⟩ := A
  simp [Around.under, Code.weight, Code.frames, Code.isFrame, Code.isCreation, Code.isGuard, Code.isCaller, Code.cUnits, Code.envs, Code.guards, pushEnvs, pushGuards, guardIds]
theorem new_ok {call : CallF} {T : Tab} (ok : FmOk C f) (tk : TabOk C T) (hc : CallOk C T call n) {c : Addr} {g : Nat} (hcl : T.isCls c = true) (hg : T.mth c 2 = some g) {kws : List Str} {k : Nat} (hkw : True)
    {g' : Nat} (ha : T.addr g' = T.addr g) {vs : List V} {σ : St} {r : Rs V} (h : newV call c g' vs σ = some r) {A : Around} {mF : Str → Option Value} {aux led : Led} {vals pos : List Value} {kw : List (Str × Value)} (aok : AOk f (n + 1) A)
    (rv : All2 (VR (ats led)) vs vals) (hargs : ∀ x : Value, T.args g' (x :: vals) = ⟨x :: pos, kw⟩) : Does C f VR A mF aux led σ (PySem.call (.ref c) pos kw) r := by
  intro s Q E M P
  have K := tk.cls c hcl
  obtain ⟨t1, t2, t3, t4⟩ := tk.meth c 2 g hg
  refine call_cls (C := c) M.fr ok.X M.nw K.inst t1 t2 fun x dx h' F' N' l1 l2 => ?_
  -- the ledger with the two new objects
  have Nd : News f.h₀ f.L h' ((dx, dictOf [] 0) :: (led ++ aux)) := fun p hp => N' p (List.mem_cons_of_mem _ hp)
  have z1 := M.alloc (o := .ns []) F' Nd l1 ⟨[], 0, rfl, trivial⟩
  have ea : ats (led ++ [(dx, dictOf [] 0)]) = ats led ++ [dx] := by show List.map _ _ = _; rw [List.map_append]; rfl
  have ll : led.length = σ.length := M.rel.length
  have z2 := z1.1.alloc (a := x) (ob := instObj c dx) (o := .inst c σ.length) F' (fun p hp => N' p (by
      simp only [List.mem_cons, List.mem_append, List.not_mem_nil, or_false] at hp ⊢
      rcases hp with rfl | (hp | rfl) | hp <;> simp_all)) (fun p hp => by
      simp only [List.mem_append, List.mem_cons, List.not_mem_nil, or_false] at hp
      rcases hp with (hp | rfl) | hp
      · exact Nat.lt_trans (l1 p (List.mem_append_left _ hp)) l2
      · exact l2
      · exact Nat.lt_trans (l1 p (List.mem_append_right _ hp)) l2)
      ⟨dx, by
        have e1 : (ats led ++ [dx])[σ.length]? = some dx := by
          rw [List.getElem?_append_right (by show (List.map _ _).length ≤ _; rw [List.length_map]; omega)]
          have : σ.length - (ats led).length = 0 := by show σ.length - (List.map _ _).length = 0; rw [List.length_map]; omega
          rw [this]; rfl
        rw [ea]
        exact pre_get (List.prefix_append _ _) e1, rfl⟩
  have pp : ats led <+: ats (led ++ [(dx, dictOf [] 0)] ++ [(x, instObj c dx)]) := z1.2.trans z2.2
  have rx : VR (ats (led ++ [(dx, dictOf [] 0)] ++ [(x, instObj c dx)])) (.ref (σ.length + 1)) (.ref x) := by
    have e : ats (led ++ [(dx, dictOf [] 0)] ++ [(x, instObj c dx)]) = ats led ++ [dx] ++ [x] := by
      show List.map _ _ = _; rw [List.map_append, List.map_append]; rfl
    rw [e]
    show (ats led ++ [dx] ++ [x])[σ.length + 1]? = some x
    have l3 : (ats led ++ [dx]).length = σ.length + 1 := by
      rw [List.length_append]; show (List.map _ _).length + 1 = _; rw [List.length_map]; omega
    rw [List.getElem?_append_right (by omega), l3]; simp
  have hz : σ ++ [O.ns []] ++ [O.inst c σ.length] = σ ++ [O.ns [], O.inst c σ.length] := by rw [List.append_assoc]; rfl
  unfold newV at h
  rw [under_call]
  have aok' : AOk f n { A with depth := A.depth + 1, units := A.units + 1 } := ⟨aok.frames, aok.handled, by have := aok.depth; show A.depth + 1 + 2 * n < _; omega, by have := aok.units; show A.units + 1 + 16 * n + 200 ≤ 9900; omega⟩
  rcases bindR_some h with ⟨v, σ', hcall, h⟩ | ⟨z, σ', hcall, rfl⟩
  · have D := hc g' _ _ _ hcall f ok _ aok' mF aux (led ++ [(dx, dictOf [] 0)] ++ [(x, instObj c dx)]) (.ref x :: vals) ⟨rx, rv.imp fun _ _ => VR.mono pp⟩
    rw [hargs, ha] at D
    have M2 := z2.1
    rw [hz] at M2
    refine D _ _ M2 ?_
    split at h <;> first | (cases h; done) | skip
    cases h
    intro led' h'' tk' val p' M' R'
    obtain rfl := R'.none_inv
    exact ⟨rfl, P led' h'' tk' _ (pp.trans p') M' (rx.mono p')⟩
  · have D := hc g' _ _ _ hcall f ok _ aok' mF aux (led ++ [(dx, dictOf [] 0)] ++ [(x, instObj c dx)]) (.ref x :: vals) ⟨rx, rv.imp fun _ _ => VR.mono pp⟩
    rw [hargs, ha] at D
    have M2 := z2.1
    rw [hz] at M2
    refine D _ _ M2 ?_
    intro led' h'' tk' e p' M'
    exact P led' h'' tk' e (pp.trans p') M'
theorem se_new {call : CallF} {T : Tab} (ok : FmOk C f) (tk : TabOk C T) (hc : CallOk C T call n) {x : Str} {c : Addr} {g : Nat} {p pos : Pos} {e : Expr} {es : List Expr} {e2 : EFs}
    (hx : f.env.kindOf x = some .globalImplicit) (hd : (x == ("__debug__" : Str)) = false) (gv : GV C x (.ref c)) (hk : keepIn C.K (.ref c) = true) (hcl : T.isCls c = true) (hg : T.mth c 2 = some g)
    (h2 : SEs C f (n + 1) pos (e :: es) e2) (he : starEach (e :: es) f.env = (false, eval e f.env) :: starEach es f.env) (hpl : (backTo pos (starEach es f.env)).any (·.1) = false) :
    SE C f (n + 1) (.Call (.Name x p) (e :: es) [] pos) (newE call c g e2) := by
  refine ⟨?_⟩
  intro le σ r h mF m aux led A a lc lr s Q E M P
  refine wpAny_Call_NameR ((se_glob (v := .glob c) ok hx hd gv rfl).p le σ _ rfl mF m aux led A a lc lr s _ E M ?_)
  intro led1 hp1 tk1 b p1 M1 R1
  obtain rfl := R1.glob_inv
  refine callWith_K ok.X hk (compose h (fun r1 q => h2.p le σ r1 q mF m aux led1 A a lc (lr.mono p1)) M1 (P.step p1) fun y σ2 led2 hp2 tk2 b2 hk2 p2 M2 R2 P2 => ⟨ok.X.keeps M2.fr.keep, ?_⟩) he hpl
  obtain ⟨t1, t2, t3, t4⟩ := tk.meth c 2 g hg
  exact new_ok (kws := []) (k := 0) ok tk hc hcl hg trivial rfl hk2 a R2 (fun z => Tab.args_plain t4 _) _ _ _ M2 P2
theorem se_new0 {call : CallF} {T : Tab} (ok : FmOk C f) (tk : TabOk C T) (hc : CallOk C T call n) {x : Str} {c : Addr} {g : Nat} {p pos : Pos}
    (hx : f.env.kindOf x = some .globalImplicit) (hd : (x == ("__debug__" : Str)) = false) (gv : GV C x (.ref c)) (hk : keepIn C.K (.ref c) = true) (hcl : T.isCls c = true) (hg : T.mth c 2 = some g) :
    SE C f (n + 1) (.Call (.Name x p) [] [] pos) (newE call c g nilS) := by
  refine ⟨?_⟩
  intro le σ r h mF m aux led A a lc lr s Q E M P
  refine wpAny_Call_NameR ((se_glob (v := .glob c) ok hx hd gv rfl).p le σ _ rfl mF m aux led A a lc lr s _ E M ?_)
  intro led1 hp1 tk1 b p1 M1 R1
  obtain rfl := R1.glob_inv
  refine callWith_K0 (ok.X.keeps M1.fr.keep) hk ?_
  obtain ⟨t1, t2, t3, t4⟩ := tk.meth c 2 g hg
  exact new_ok (kws := []) (k := 0) (vs := []) (vals := []) ok tk hc hcl hg trivial rfl h a trivial (fun z => Tab.args_plain t4 _) _ _ _ M1 (P.step p1)
/-- a method's own look-up -/
theorem meth_found {T : Tab} (ok : FmOk C f) (tk : TabOk C T) {m : Nat} (hm : m < 16) {a : V} {σ : St} {k g : Nat} (h : methV T m a σ = some (k, g)) {A : Around} {mF aux led} {va : Value} {s : Shared} (M : MemC C f mF aux led σ s.heap) (ra : VR (ats led) a va)
    {Q : Value × List Value → Shared → Prop} {E : Value → Shared → Prop} {pl : Sem Bool} (q : VR (ats led) (.ref k) va → Q (.ref (T.addr g), [va]) s) : wpAny (model C.prog C.w) A (getMethod va (mn m) pl) Q E s := by
  unfold methV at h
  split at h <;> first | (cases h; done) | skip
  split at h <;> first | (cases h; done) | skip
  rename_i k' c d e1
  split at h <;> first | (cases h; done) | skip
  rename_i hc
  split at h <;> first | (cases h; done) | skip
  rename_i fs g' e2 hg
  cases h
  obtain ⟨x, dx, es, mm, rfl, h1, h2, h3, I⟩ := inst_at M e1 e2 ra
  have K := tk.cls c hc
  obtain ⟨t1, t2, t3, t4⟩ := tk.meth c m g hg
  exact method_inst (C := c) M.fr ok.X I (K.get _) t1 t2 (getL_off (mn_off m hm) h3) (q ra)
theorem methV_mth {T : Tab} {m : Nat} {a : V} {σ : St} {k g : Nat} (h : methV T m a σ = some (k, g)) : ∃ c, T.mth c m = some g := by
  unfold methV at h
  split at h <;> first | (cases h; done) | skip
  split at h <;> first | (cases h; done) | skip
  split at h <;> first | (cases h; done) | skip
  split at h <;> first | (cases h; done) | skip
  rename_i hg
  cases h
  exact ⟨_, hg⟩
theorem se_meth {call : CallF} {T : Tab} (ok : FmOk C f) (tk : TabOk C T) (hc : CallOk C T call n) {o : Expr} {m : Nat} {apos pos : Pos} {e : Expr} {es : List Expr} {e1 : EF} {e2 : EFs} {pl : Sem Bool} (hm : m < 16)
    (h1 : SE C f (n + 1) o e1) (h2 : SEs C f (n + 1) pos (e :: es) e2) (he : starEach (e :: es) f.env = (false, eval e f.env) :: starEach es f.env) (hpl : (backTo pos (starEach es f.env)).any (·.1) = false)
    (hev : eval (.Call (.Attribute o (mn m) apos) (e :: es) [] pos) f.env = (do
      let ov ← eval o f.env
      standAt apos.atName
      let (g, first) ← holding [ov] (getMethod ov (mn m) pl)
      callWith pos g first (backTo pos (starEach (e :: es) f.env)) [])) :
    SE C f (n + 1) (.Call (.Attribute o (mn m) apos) (e :: es) [] pos) (methE T call m e1 e2) := by
  refine ⟨?_⟩
  intro le σ r h mF m' aux led A a lc lr s Q E M P
  refine MethodCall_ (pl := pl) (compose h (fun r1 q => h1.p le σ r1 q mF m' aux led A a lc lr) M P fun x σ1 led1 hp1 tk1 b hk p1 M1 R1 P1 => ?_) hev

  split at hk <;> first | (cases hk; done) | skip
  rename_i k g hmv
  refine meth_found ok tk hm hmv M1 R1 fun rk => ?_
  obtain ⟨c, hmt⟩ := methV_mth hmv
  obtain ⟨t1, t2, t3, t4⟩ := tk.meth c m g hmt
  refine callWith_K ok.X t3 (compose hk (fun r1 q => h2.p le σ1 r1 q mF m' aux led1 A a lc (lr.mono p1)) M1 P1 fun y σ2 led2 hp2 tk2 b2 hk2 p2 M2 R2 P2 => ⟨ok.X.keeps M2.fr.keep, ?_⟩) he hpl
  have D := hc g _ _ _ hk2 f ok A (a.le (Nat.le_succ n)) mF aux led2 (b :: b2) ⟨rk.mono p2, R2⟩
  rw [Tab.args_plain t4] at D
  exact D.code _ _ _ M2 P2
theorem se_meth0 {call : CallF} {T : Tab} (ok : FmOk C f) (tk : TabOk C T) (hc : CallOk C T call n) {o : Expr} {m : Nat} {apos pos : Pos} {e1 : EF} {pl : Sem Bool} (hm : m < 16)
    (h1 : SE C f (n + 1) o e1)
    (hev : eval (.Call (.Attribute o (mn m) apos) [] [] pos) f.env = (do
      let ov ← eval o f.env
      standAt apos.atName
      let (g, first) ← holding [ov] (getMethod ov (mn m) pl)
      callWith pos g first (backTo pos (starEach [] f.env)) [])) :
    SE C f (n + 1) (.Call (.Attribute o (mn m) apos) [] [] pos) (methE T call m e1 nilS) := by
  refine ⟨?_⟩
  intro le σ r h mF m' aux led A a lc lr s Q E M P
  refine MethodCall_ (pl := pl) (compose h (fun r1 q => h1.p le σ r1 q mF m' aux led A a lc lr) M P fun x σ1 led1 hp1 tk1 b hk p1 M1 R1 P1 => ?_) hev

  split at hk <;> first | (cases hk; done) | skip
  rename_i k g hmv
  refine meth_found ok tk hm hmv M1 R1 fun rk => ?_
  obtain ⟨c, hmt⟩ := methV_mth hmv
  obtain ⟨t1, t2, t3, t4⟩ := tk.meth c m g hmt
  refine callWith_K0 (ok.X.keeps M1.fr.keep) t3 ?_
  have D := hc g _ _ _ hk f ok A (a.le (Nat.le_succ n)) mF aux led1 [b] ⟨rk, trivial⟩
  rw [Tab.args_plain t4] at D
  exact D.code _ _ _ M1 P1
end
end Mine

end
section
open PySem PySem.W PyProof.Rows PySem.Calls PySem.Spec PyProof.V PySem.SeqAt
set_option linter.unusedSimpArgs false
set_option linter.unusedVariables false
set_option autoImplicit false
set_option Elab.async false
namespace Mine
/-! ## statements -/
inductive Fl where
  | next | brk | cont | ret (v : V)
def FlR (ρ : List Addr) : Fl → Flow → Prop
  | .next, .next => True
  | .brk, .brk => True
  | .cont, .cont => True
  | .ret v, .ret w => VR ρ v w
  | _, _ => False
theorem FlR.next_inv {ρ x} (h : FlR ρ .next x) : x = .next := by cases x <;> first | rfl | exact h.elim
theorem FlR.brk_inv {ρ x} (h : FlR ρ .brk x) : x = .brk := by cases x <;> first | rfl | exact h.elim
theorem FlR.cont_inv {ρ x} (h : FlR ρ .cont x) : x = .cont := by cases x <;> first | rfl | exact h.elim
theorem FlR.ret_inv {ρ v x} (h : FlR ρ (.ret v) x) : ∃ w, x = .ret w ∧ VR ρ v w := by cases x <;> first | exact h.elim | exact ⟨_, rfl, h⟩
theorem FlR.mono {ρ ρ' : List Addr} (p : ρ <+: ρ') : ∀ {x v}, FlR ρ x v → FlR ρ' x v := by
  intro x v h
  cases x <;> cases v <;> first | exact h | exact h.elim | exact VR.mono p h

/-- what a statement leaves -/
inductive Rt where
  | ok (fl : Fl) (lo : List (Option V)) (σ : St)
  | exc (x : X) (lo : List (Option V)) (σ : St)

abbrev SF := Le → St → Option Rt

section
variable (C : Ctx) (f : Fm)
def PostS (cl : List Nat) (aux led : Led) (s : Shared) (Q : Flow → Shared → Prop) (E : Value → Shared → Prop) : Rt → Prop
  | .ok fl lo σ' => ∀ m' led' h' tk flv, ats led <+: ats led' → MemC C f m' aux led' σ' h' → LeR f (ats led') m' ⟨lo, cl⟩ → FlR (ats led') fl flv → Q flv { s with heap := h', toks := tk }
  | .exc x lo σ' => ∀ m' led' h' tk e, ats led <+: ats led' → LeR f (ats led') m' ⟨lo, cl⟩ → RaisedAt C f m' aux led' σ' x e h' → E (.ref e) { s with heap := h', toks := tk }
def EvS (n : Nat) (t : Sem Flow) (le : Le) (σ : St) (r : Rt) : Prop :=
  ∀ m aux led A, AOk f n A → f.env.locals = f.L → LeR f (ats led) m le → ∀ s Q E, MemC C f m aux led σ s.heap → PostS C f le.cl aux led s Q E r → wpAny (model C.prog C.w) A t Q E s
structure SS (n : Nat) (st : Stmt) (ev : SF) : Prop where
  p : ∀ le σ r, ev le σ = some r → EvS C f n (exec st f.env) le σ r
structure SL (n : Nat) (st : List Stmt) (ev : SF) : Prop where
  p : ∀ le σ r, ev le σ = some r → EvS C f n (execs st f.env) le σ r
end

/-! ### the combinators -/
def bindS : Option Rt → (List (Option V) → St → Option Rt) → Option Rt
  | some (.ok .next lo σ), k => k lo σ
  | r, _ => r
def bindE {α : Type} (lo : List (Option V)) : Option (Rs α) → (α → St → Option Rt) → Option Rt
  | some (.ok a σ), k => k a σ
  | some (.exc x σ), _ => some (.exc x lo σ)
  | none, _ => none
def nilL : SF := fun le σ => some (.ok .next le.lo σ)
def consL (a b : SF) : SF := fun le σ => bindS (a le σ) fun lo σ1 => b ⟨lo, le.cl⟩ σ1
def passS : SF := fun le σ => some (.ok .next le.lo σ)
def contS : SF := fun le σ => some (.ok .cont le.lo σ)
def brkS : SF := fun le σ => some (.ok .brk le.lo σ)
def noS : SF := fun _ _ => none
def noE : EF := fun _ _ => none
def retS (e : EF) : SF := fun le σ => bindE le.lo (e le σ) fun v σ1 => some (.ok (.ret v) le.lo σ1)
def retN : SF := fun le σ => some (.ok (.ret .none) le.lo σ)
def exprS (e : EF) : SF := fun le σ => bindE le.lo (e le σ) fun _ σ1 => some (.ok .next le.lo σ1)
def ifS (c : EFb) (a b : SF) : SF := fun le σ => bindE le.lo (c le σ) fun t σ1 => if t then a le σ1 else b le σ1
def assertS (c : EFb) : SF := fun le σ => bindE le.lo (c le σ) fun t σ1 => if t then some (.ok .next le.lo σ1) else none
/-- store at a local, at a cell -/
def setLo (i : Nat) (v : V) (lo : List (Option V)) : List (Option V) := lo.set i (some v)
def cellAtV (cl : List Nat) (j : Nat) (v : V) (σ : St) : Option St := (cl[j]?).bind fun k => match σ[k]? with
  | some (.cell _) => some (σ.set k (.cell (some v)))
  | _ => none
def asgL (i : Nat) (e : EF) : SF := fun le σ => bindE le.lo (e le σ) fun v σ1 => some (.ok .next (setLo i v le.lo) σ1)
def asgC (j : Nat) (e : EF) : SF := fun le σ => bindE le.lo (e le σ) fun v σ1 => (cellAtV le.cl j v σ1).map fun σ2 => .ok .next le.lo σ2

section
variable {C : Ctx} {f : Fm} {n : Nat}
theorem PostS.step {cl : List Nat} {aux led : Led} {s : Shared} {Q : Flow → Shared → Prop} {E : Value → Shared → Prop} {r : Rt} {led1 : Led} {h1 : Heap} {tk1 : Nat} (P : PostS C f cl aux led s Q E r) (p : ats led <+: ats led1) :
    PostS C f cl aux led1 { s with heap := h1, toks := tk1 } Q E r := by
  cases r with
  | ok fl lo σ => exact fun m' led' h' tk flv p' M r e => P m' led' h' tk flv (p.trans p') M r e
  | exc x lo σ => exact fun m' led' h' tk e p' M r => P m' led' h' tk e (p.trans p') M r
theorem PostS.here {cl : List Nat} {aux led : Led} {s : Shared} {Q : Flow → Shared → Prop} {E : Value → Shared → Prop} {fl : Fl} {lo : List (Option V)} {σ : St} {m : Str → Option Value} (P : PostS C f cl aux led s Q E (.ok fl lo σ)) (M : MemC C f m aux led σ s.heap)
    (l : LeR f (ats led) m ⟨lo, cl⟩) {flv : Flow} (hf : FlR (ats led) fl flv) : Q flv s := P m led s.heap s.toks flv (List.prefix_refl _) M l hf
/-- an expression's step within a statement -/
theorem stepE {α β : Type} {R : List Addr → α → β → Prop} {t1 : Sem β} {le : Le} {σ : St} {s : Shared} {m : Option (Rs α)} {k : α → St → Option Rt} {r : Rt} {mm : Str → Option Value} {aux led : Led} {A : Around} {Q : Flow → Shared → Prop} {E : Value → Shared → Prop} {Q1 : β → Shared → Prop}
    (h : bindE le.lo m k = some r) (h1 : ∀ r1, m = some r1 → EvT C f R n t1 le σ r1) (a : AOk f n A) (hl : f.env.locals = f.L) (l : LeR f (ats led) mm le) (M : MemC C f mm aux led σ s.heap) (P : PostS C f le.cl aux led s Q E r)
    (hk : ∀ x σ1 led1 h1 tk1 b, k x σ1 = some r → ats led <+: ats led1 → MemC C f mm aux led1 σ1 h1 → R (ats led1) x b → LeR f (ats led1) mm le → PostS C f le.cl aux led1 { s with heap := h1, toks := tk1 } Q E r → Q1 b { s with heap := h1, toks := tk1 }) :
    wpAny (model C.prog C.w) A t1 Q1 E s := by
  cases m with
  | none => cases h
  | some r1 =>
    refine h1 r1 rfl mm mm aux led A a (.fn hl rfl) l s Q1 E M ?_
    cases r1 with
    | ok x σ1 => exact fun led1 h1 tk1 b p M1 R1 => hk x σ1 led1 h1 tk1 b h p M1 R1 (l.mono p) (P.step p)
    | exc x σ1 =>
      cases h
      exact fun led' h' tk e p R1 => P mm led' h' tk e p (l.mono p) R1
theorem sl_nil : SL C f n [] nilL := by
  refine ⟨?_⟩
  intro le σ r h m aux led A a hl l s Q E M P
  cases h
  exact wpAny_execs_nil (P.here M l (by trivial))
theorem sl_cons {st : Stmt} {rest : List Stmt} {e1 e2 : SF} (h1 : SS C f n st e1) (h2 : SL C f n rest e2) : SL C f n (st :: rest) (consL e1 e2) := by
  refine ⟨?_⟩
  intro le σ r h m aux led A a hl l s Q E M P
  refine wpAny_execs_cons ?_
  unfold consL at h
  cases h0 : e1 le σ with
  | none => rw [h0] at h; cases h
  | some r1 =>
    rw [h0] at h
    refine h1.p le σ r1 h0 m aux led A a hl l s _ E M ?_
    cases r1 with
    | ok fl lo σ1 =>
      cases fl with
      | next =>
        intro m' led' h' tk flv p M' l' hf
        obtain rfl := hf.next_inv
        exact h2.p ⟨lo, le.cl⟩ σ1 r h m' aux led' A a hl l' _ _ _ M' (P.step p)
      | brk =>
        cases h
        intro m' led' h' tk flv p M' l' hf
        obtain rfl := hf.brk_inv
        exact P m' led' h' tk _ p M' l' hf
      | cont =>
        cases h
        intro m' led' h' tk flv p M' l' hf
        obtain rfl := hf.cont_inv
        exact P m' led' h' tk _ p M' l' hf
      | ret v =>
        cases h
        intro m' led' h' tk flv p M' l' hf
        obtain ⟨w, rfl, _⟩ := hf.ret_inv
        exact P m' led' h' tk _ p M' l' hf
    | exc x lo σ1 =>
      cases h
      exact P
theorem ss_no {st : Stmt} : SS C f n st noS := ⟨fun _ _ _ h => by cases h⟩
theorem sl_no {st : List Stmt} : SL C f n st noS := ⟨fun _ _ _ h => by cases h⟩
theorem se_no {e : Expr} : SE C f n e noE := ⟨fun _ _ _ h => by cases h⟩
theorem ss_pass {pos : Pos} : SS C f n (.Pass pos) passS := by
  refine ⟨?_⟩
  intro le σ r h m aux led A a hl l s Q E M P
  cases h
  exact wpAny_Pass (P.here M l (by trivial))
theorem ss_cont {pos : Pos} : SS C f n (.Continue pos) contS := by
  refine ⟨?_⟩
  intro le σ r h m aux led A a hl l s Q E M P
  cases h
  exact wpAny_Continue (P.here M l (by trivial))
theorem ss_retN {pos : Pos} : SS C f n (.Return none pos) retN := by
  refine ⟨?_⟩
  intro le σ r h m aux led A a hl l s Q E M P
  cases h
  exact wpAny_Return_none (P.here M l (by trivial))
theorem ss_ret {e : Expr} {pos : Pos} {ev : EF} (he : SE C f n e ev) : SS C f n (.Return (some e) pos) (retS ev) := by
  refine ⟨?_⟩
  intro le σ r h m aux led A a hl l s Q E M P
  refine wpAny_Return_some (stepE h (fun r1 q => he.p le σ r1 q) a hl l M P fun x σ1 led1 hp1 tk1 b hk p1 M1 R1 l1 P1 => ?_)
  cases hk
  exact P1.here M1 l1 R1
theorem ss_expr {e : Expr} {pos : Pos} {ev : EF} (he : SE C f n e ev) (hi : interactive f.env = false) (hs : swapsWith e none pos.line f.env = pure false) : SS C f n (.Expr e pos) (exprS ev) := by
  refine ⟨?_⟩
  intro le σ r h m aux led A a hl l s Q E M P
  refine wpAny_Expr_any (stepE h (fun r1 q => he.p le σ r1 q) a hl l M P fun x σ1 led1 hp1 tk1 b hk p1 M1 R1 l1 P1 => ?_) hi hs
  cases hk
  exact P1.here M1 l1 (by trivial)
theorem ss_if {c : Expr} {b o : List Stmt} {pos : Pos} {ec : EFb} {eb eo : SF} (hc : SB C f n c ec) (hb : SL C f n b eb) (ho : SL C f n o eo) : SS C f n (.If c b o pos) (ifS ec eb eo) := by
  refine ⟨?_⟩
  intro le σ r h m aux led A a hl l s Q E M P
  refine wpAny_If (stepE h (fun r1 q => hc.p le σ r1 q) a hl l M P fun x σ1 led1 hp1 tk1 b hk p1 M1 R1 l1 P1 => ?_)
  subst R1
  cases x with
  | true => exact hb.p le σ1 r hk m aux led1 A a hl l1 _ _ _ M1 P1
  | false => exact ho.p le σ1 r hk m aux led1 A a hl l1 _ _ _ M1 P1
theorem ss_assert {c : Expr} {msg : Option Expr} {pos : Pos} {ec : EFb} (hc : SB C f n c ec) : SS C f n (.Assert c msg pos) (assertS ec) := by
  refine ⟨?_⟩
  intro le σ r h m aux led A a hl l s Q E M P
  refine wpAny_Assert_holds (stepE h (fun r1 q => hc.p le σ r1 q) a hl l M P fun x σ1 led1 hp1 tk1 b hk p1 M1 R1 l1 P1 => ?_)
  subst R1
  split at hk
  · rename_i ht
    cases hk
    exact ⟨ht, P1.here M1 l1 (by trivial)⟩
  · cases hk

/-! ### stores -/
theorem LeR.setLo {ρ : List Addr} {m : Str → Option Value} {le : Le} (ok : FmOk C f) (l : LeR f ρ m le) {i : Nat} {x : Str} (hx : f.xs[i]? = some x) {v : V} {val : Value} (r : VR ρ v val) :
    LeR f ρ (fun y => if y = x then some val else m y) ⟨Mine.setLo i v le.lo, le.cl⟩ := by
  refine ⟨?_, l.cl⟩
  unfold Mine.setLo
  refine All2.of_get (by rw [List.length_set]; exact l.lo.length) fun j y ov hy ho => ?_
  rw [List.getElem?_set] at ho
  by_cases hj : i = j
  · subst hj
    rw [hx] at hy; cases hy
    have : i < le.lo.length := by rw [← l.lo.length]; exact (List.getElem?_eq_some_iff.mp hx).1
    simp only [if_true, this] at ho
    cases ho
    simp only [if_true]
    exact r
  · rw [if_neg hj] at ho
    have hne : y ≠ x := by
      rintro rfl
      exact hj ((List.getElem?_inj (List.getElem?_eq_some_iff.mp hx).1 ok.xn).mp (hx.trans hy.symm))
    rw [if_neg hne]
    obtain ⟨ov', h1, h2⟩ := l.lo.get hy
    rw [ho] at h1; cases h1
    exact h2
theorem store_local (ok : FmOk C f) {i : Nat} {x : Str} (hx : f.xs[i]? = some x) {v : V} {val : Value} {le : Le} {m : Str → Option Value} {aux led : Led} {σ : St} {s : Shared} {A : Around} {E : Value → Shared → Prop} {Q : Unit → Shared → Prop}
    (hl : f.env.locals = f.L) (l : LeR f (ats led) m le) (M : MemC C f m aux led σ s.heap) (r : VR (ats led) v val)
    (h : ∀ h' m', MemC C f m' aux led σ h' → LeR f (ats led) m' ⟨setLo i v le.lo, le.cl⟩ → Q () { s with heap := h', toks := s.toks + 1 }) : wpAny (model C.prog C.w) A (storeName f.env x val) Q E s := by
  refine wpAny_storeName_local (ok.xl x (mem_of_get hx)) (hl ▸ M.fr.ns) (fun h' hn hs => ?_) (by rw [ok.ekind]; rfl)
  rw [hl] at hn hs
  exact h h' _ ⟨M.fr.set hn hs, M.nw.set hs, M.nd, M.rel⟩ (l.setLo ok hx r)
theorem store_cell (ok : FmOk C f) {j : Nat} {x : Str} (hx : f.cs[j]? = some x) {v : V} {val : Value} {le : Le} {m mF : Str → Option Value} {aux led : Led} {σ σ' : St} {s : Shared} {A : Around} {E : Value → Shared → Prop} {Q : Unit → Shared → Prop}
    (l : LeR f (ats led) m le) (M : MemC C f mF aux led σ s.heap) (r : VR (ats led) v val) (hc : cellAtV le.cl j v σ = some σ')
    (h : ∀ h' led', ats led' = ats led → MemC C f mF aux led' σ' h' → Q () { s with heap := h' }) : wpAny (model C.prog C.w) A (storeName f.env x val) Q E s := by
  obtain ⟨k, hk, hc⟩ := Option.bind_eq_some_iff.mp hc
  split at hc <;> cases hc
  rename_i ov e
  obtain ⟨k', hk', c, hc, hr⟩ := l.cl.get hx
  rw [hk] at hk'; cases hk'
  obtain ⟨c', ob, hl', v', hd, hv⟩ := M.at_ e
  have := Mem.ats_of hl'
  rw [hr] at this; cases this
  have hm := M.nw (c, ob) (List.mem_append_left _ (mem_of_get hl'))
  refine wpAny_storeName_cell ok.ekind (ok.cl x (mem_of_get hx)) hc ⟨ob, hm.1, hd⟩ fun h' hv' hs => ?_
  obtain ⟨o', ho', hd'⟩ := hv'
  have U := upd_at M.nd (Mem.left (aux := aux) hl') (o' := o')
  have F' : Fr f.h₀ f.L h' mF := M.fr.change hs hm.2.1 hm.2.2
  have N' : News f.h₀ f.L h' ((led ++ aux).set k (c, o')) := by
    intro p hp
    obtain ⟨i, hi⟩ := List.getElem?_of_mem hp
    rw [List.getElem?_set] at hi
    by_cases hik : k = i
    · subst hik
      have lt := (List.getElem?_eq_some_iff.mp (Mem.left (aux := aux) hl')).1
      simp only [if_true, lt] at hi
      cases hi
      exact ⟨ho', hm.2⟩
    · rw [if_neg hik] at hi
      have hp' := M.nw p (mem_of_get hi)
      refine ⟨hs.extBut _ _ (fun q => hik ?_) hp'.1, hp'.2⟩
      obtain ⟨b, o⟩ := p
      have q : b = c := q
      subst q
      exact nodup_key M.nd (Mem.left hl') hi
  obtain ⟨M', ek⟩ := M.set (o' := .cell (some v)) hl' F' N' ⟨some val, hd', r⟩
  exact h h' _ ek M'
theorem ss_asgL (ok : FmOk C f) {x : Str} {i : Nat} {p pos : Pos} {e : Expr} {ev : EF} (hx : f.xs[i]? = some x) (he : SE C f n e ev) (hs : swapsWith e (some (.Name x p)) pos.line f.env = pure false) : SS C f n (.Assign [.Name x p] e pos) (asgL i ev) := by
  refine ⟨?_⟩
  intro le σ r h m aux led A a hl l s Q E M P
  refine wpAny_Assign_Name (stepE h (fun r1 q => he.p le σ r1 q) a hl l M P fun x σ1 led1 hp1 tk1 b hk p1 M1 R1 l1 P1 => ?_) hs
  cases hk
  refine store_local ok hx hl l1 M1 R1 fun h' m' M2 l2 => ?_
  exact P1 m' led1 h' _ _ (List.prefix_refl _) M2 l2 (by trivial)
theorem ss_asgC (ok : FmOk C f) {x : Str} {j : Nat} {p pos : Pos} {e : Expr} {ev : EF} (hx : f.cs[j]? = some x) (he : SE C f n e ev) (hs : swapsWith e (some (.Name x p)) pos.line f.env = pure false) : SS C f n (.Assign [.Name x p] e pos) (asgC j ev) := by
  refine ⟨?_⟩
  intro le σ r h m aux led A a hl l s Q E M P
  refine wpAny_Assign_Name (stepE h (fun r1 q => he.p le σ r1 q) a hl l M P fun x σ1 led1 hp1 tk1 b hk p1 M1 R1 l1 P1 => ?_) hs
  obtain ⟨σ2, hc, rfl⟩ := Option.map_eq_some_iff.mp hk
  refine store_cell ok hx l1 M1 R1 hc fun h' led' ek M2 => ?_
  exact P1 m led' h' _ _ (by rw [ek]; exact List.prefix_refl _) M2 (by rw [ek]; exact l1) (by trivial)
end
end Mine

end
section
open PySem PySem.W PyProof.Rows PySem.Calls PySem.Spec PyProof.V PySem.SeqAt
set_option linter.unusedSimpArgs false
set_option linter.unusedVariables false
set_option autoImplicit false
set_option Elab.async false
namespace Mine
/-! ## iteration -/
inductive Kd where
  | list | tup | dict (e : Nat) | rng (a : Int)
  deriving DecidableEq
/-- what is walked along: its kind and its length -/
def kdOf (T : Tab) (a : V) (σ : St) : Option (Kd × Nat) := match a with
  | .ref k => match σ[k]? with
    | some (.list vs) => some (.list, vs.length)
    | some (.tup vs) => some (.tup, vs.length)
    | some (.dict kvs (some e)) => some (.dict e, kvs.length)
    | some (.rng a b) => if small a && small b then some (.rng a, (b - a).toNat) else none
    | _ => none
  | .glob g => (T.tups g).map fun vs => (.tup, vs.length)
  | _ => none
def itemAt (T : Tab) (a : V) (j : Nat) (σ : St) : Option V := match a with
  | .ref k => match σ[k]? with
    | some (.list vs) => vs[j]?
    | some (.tup vs) => vs[j]?
    | some (.dict kvs _) => (kvs[j]?).map fun p => .int p.1
    | some (.rng a b) => some (.int (a + j))
    | _ => none
  | .glob g => (T.tups g).bind fun vs => vs[j]?
  | _ => none
/-- the iterator's object -/
def ItSt (kd : Kd) (va : Value) (n j : Nat) (o : Obj) : Prop := match kd with
  | .list => o.cls = .type "list_iterator" ∧ o.data = .fields #[va, .int j 0]
  | .tup => o.cls = .type "tuple_iterator" ∧ o.data = .fields #[va, .int j 0]
  | .dict e => o.cls = .type "dict_keyiterator" ∧ o.data = .fields #[va, .int j 0, .int n 0, .int e 0]
  | .rng a => o = { cls := .type "range_iterator", dict := none, data := .fields #[rawInt (a + j), rawInt ((n : Int) - j), rawInt 1], slots := #[] }
section
variable {C : Ctx} {f : Fm} {n : Nat}
theorem rangeSize_is (a b : Int) : Builtin.Range.rangeSize a b 1 = (((b - a).toNat : Nat) : Int) := by
  rw [rangeSize_one]
  split <;> omega
theorem small_range {a b : Int} (h : (small a && small b) = true) : Builtin.Range.small a b 1 = true := by
  rw [Bool.and_eq_true] at h
  have h1 := of_decide_eq_true h.1
  have h2 := of_decide_eq_true h.2
  unfold Builtin.Range.small
  rw [rangeSize_is]
  unfold Builtin.Range.rangeFitsLong
  simp
  omega
/-- the head of the hidden objects has changed -/
theorem Mem.auxHead {mF : Str → Option Value} {aux led : Led} {σ : St} {h h' : Heap} {I : Addr} {o o' : Obj} (M : MemC C f mF ((I, o) :: aux) led σ h) (hs : Heap.SameBut I h h') (ho : h'.get? I = some o') : MemC C f mF ((I, o') :: aux) led σ h' := by
  have hI := M.nw (I, o) (List.mem_append_right _ (.head _))
  have nd := M.nd
  rw [List.map_append, List.map_cons, List.nodup_append] at nd
  refine ⟨M.fr.change hs hI.2.1 hI.2.2, fun p hp => ?_, ?_, M.rel⟩
  · rcases List.mem_append.mp hp with hp | hp
    · have q := M.nw p (List.mem_append_left _ hp)
      exact ⟨hs.extBut _ _ (fun e => nd.2.2 p.1 (List.mem_map.mpr ⟨p, hp, rfl⟩) I (.head _) e) q.1, q.2⟩
    · rcases List.mem_cons.mp hp with rfl | hp
      · exact ⟨ho, hI.2⟩
      · have q := M.nw p (List.mem_append_right _ (.tail _ hp))
        exact ⟨hs.extBut _ _ (fun e => (List.nodup_cons.mp nd.2.1).1 (List.mem_map.mpr ⟨p, hp, e⟩)) q.1, q.2⟩
  · have := M.nd
    rw [List.map_append, List.map_cons] at this ⊢
    exact this
theorem Mem.auxDrop {mF : Str → Option Value} {aux led : Led} {σ : St} {h h' : Heap} {I : Addr} {o : Obj} (M : MemC C f mF ((I, o) :: aux) led σ h) (hs : Heap.ExtBut I h h') : MemC C f mF aux led σ h' := by
  have hI := M.nw (I, o) (List.mem_append_right _ (.head _))
  have nd := M.nd
  rw [List.map_append, List.map_cons, List.nodup_append] at nd
  have hfr : Fr f.h₀ f.L h' mF := by
    obtain ⟨oL, a1, a2, hoL, a3⟩ := M.fr.ns
    refine ⟨⟨oL, a1, a2, hs _ _ (fun e => hI.2.1 e.symm) hoL, a3⟩, fun b x e => hs _ _ (fun q => ?_) (M.fr.keep b x e), M.fr.above⟩
    rw [q, hI.2.2] at e; cases e
  refine ⟨hfr, fun p hp => ?_, ?_, M.rel⟩
  · rcases List.mem_append.mp hp with hp | hp
    · have q := M.nw p (List.mem_append_left _ hp)
      exact ⟨hs _ _ (fun e => nd.2.2 p.1 (List.mem_map.mpr ⟨p, hp, rfl⟩) I (.head _) e) q.1, q.2⟩
    · have q := M.nw p (List.mem_append_right _ (.tail _ hp))
      exact ⟨hs _ _ (fun e => (List.nodup_cons.mp nd.2.1).1 (List.mem_map.mpr ⟨p, hp, e⟩)) q.1, q.2⟩
  · have := M.nd
    rw [List.map_append, List.map_cons] at this
    rw [List.map_append]
    exact this.sublist (List.Sublist.append (List.Sublist.refl _) (List.sublist_cons_self _ _))
theorem Mem.auxNew {mF : Str → Option Value} {aux led : Led} {σ : St} {h : Heap} (M : MemC C f mF aux led σ h) (o : Obj) (hf : o.isFreed = false) : MemC C f mF ((h.objs.size, o) :: aux) led σ (h.push o) := by
  have N2 := News.push M.fr M.nw o hf
  refine ⟨M.fr.push o, fun p hp => N2 p ?_, ?_, M.rel⟩
  · simp only [List.mem_append, List.mem_cons] at hp ⊢
    rcases hp with h | h | h <;> simp [h]
  · have nd := M.nd
    rw [List.map_append] at nd ⊢
    rw [List.map_cons]
    rw [List.nodup_append] at nd ⊢
    have out : ∀ p ∈ led ++ aux, p.1 ≠ h.objs.size := M.nw.apart
    refine ⟨nd.1, List.nodup_cons.mpr ⟨fun hm => ?_, nd.2.1⟩, fun x hx y hy => ?_⟩
    · obtain ⟨p, hp, e⟩ := List.mem_map.mp hm
      exact out p (List.mem_append_right _ hp) e
    · rcases List.mem_cons.mp hy with rfl | hy
      · obtain ⟨p, hp, e⟩ := List.mem_map.mp hx
        exact fun q => out p (List.mem_append_left _ hp) (e.trans q)
      · exact nd.2.2 x hx y hy
theorem Mem.auxGet {mF : Str → Option Value} {aux led : Led} {σ : St} {h : Heap} {I : Addr} {o : Obj} (M : MemC C f mF ((I, o) :: aux) led σ h) : h.get? I = some o := (M.nw (I, o) (List.mem_append_right _ (.head _))).1
theorem isTup_tuple {h : Heap} {a : Addr} {its : Array Value} (x : IsTup h a its) : h.IsTuple a its := x
theorem dictAt_of {mF aux led σ} {h : Heap} (M : MemC C f mF aux led σ h) {k e : Nat} {kvs : List (Int × V)} {v : Value} (q : σ[k]? = some (.dict kvs (some e))) (r : VR (ats led) (.ref k) v) :
    ∃ a kv, v = .ref a ∧ h.DictAt (intKind C.prog C.w) a kv e ∧ All2 (KvR (ats led)) kvs kv := by
  obtain ⟨a, ob, rfl, h1, kv, h2, h3, h4, h5⟩ := M.deref q r
  obtain ⟨es, hd⟩ := h5 e rfl
  obtain ⟨es', ep, x1, x2, x3, x4, x5⟩ := h2
  rw [hd] at x2; cases x2
  exact ⟨a, kv, rfl, ⟨ob, es, M.get h1, x1, hd, x3, x4, x5⟩, h3⟩
theorem iter_start {T : Tab} (ok : FmOk C f) (tk : TabOk C T) {a : V} {σ : St} {kd : Kd} {len : Nat} (h : kdOf T a σ = some (kd, len)) {A : Around} {mF : Str → Option Value} {aux led : Led} {va : Value} {s : Shared} {Q : Value → Shared → Prop} {E : Value → Shared → Prop} (ra : VR (ats led) a va) (M : MemC C f mF aux led σ s.heap)
    (q : ∀ I oI h', MemC C f mF ((I, oI) :: aux) led σ h' → ItSt kd va len 0 oI → Q (.ref I) { s with heap := h' }) : wpAny (model C.prog C.w) A (pyIter va) Q E s := by
  unfold kdOf at h
  split at h
  · rename_i k
    split at h <;> first | (cases h; done) | skip
    · rename_i vs e
      cases h
      obtain ⟨x, its, m, rfl, h1, h2, h3, h4⟩ := list_at M e ra
      exact wpAny_pyIter_list h4 (q _ _ _ (M.auxNew _ rfl) ⟨rfl, rfl⟩)
    · rename_i vs e
      cases h
      obtain ⟨x, its, m, rfl, h1, h2, h3, h4⟩ := tup_at M e ra
      exact wpAny_pyIter_tuple h4 (q _ _ _ (M.auxNew _ rfl) ⟨rfl, rfl⟩)
    · rename_i kvs ep e
      cases h
      obtain ⟨x, kv, rfl, h1, h2⟩ := dictAt_of M e ra
      obtain ⟨x', ob, kv', e', _, _, _, _, _, h6⟩ := dict_at ok M e ra
      cases e'
      refine wpAny_pyIter_dict h6 h1 (q _ _ _ (M.auxNew _ rfl) ⟨rfl, ?_⟩)
      rw [h2.length]; rfl
    · rename_i x y e
      split at h
      · rename_i hs
        cases h
        obtain ⟨x', ob, rfl, h1, t, u, v, rfl⟩ := M.deref e ra
        refine wpAny_pyIter_range (M.get h1) (small_range hs) (q _ _ _ (M.auxNew _ rfl) ?_)
        show _ = _
        rw [rangeSize_is]
        simp
      · cases h
  · rename_i g
    obtain ⟨vs, ht, h⟩ := Option.map_eq_some_iff.mp h
    cases h
    obtain rfl := ra.glob_inv
    obtain ⟨its, m, dd, sl, hl, h2, h3⟩ := tk.tup _ _ ht
    have h4 : IsTup s.heap g its.toArray := tupK (ok.X.keeps M.fr.keep) hl
    exact wpAny_pyIter_tuple h4 (q _ _ _ (M.auxNew _ rfl) ⟨rfl, rfl⟩)
  · cases h
theorem iter_item {T : Tab} (ok : FmOk C f) (tk : TabOk C T) {a v : V} {σ : St} {kd : Kd} {len j : Nat} (h : kdOf T a σ = some (kd, len)) (hv : itemAt T a j σ = some v) (hj : j < len) {A : Around} {mF : Str → Option Value} {aux led : Led} {va : Value} {I : Addr} {oI : Obj} {s : Shared} {Q : Option Value → Shared → Prop} {E : Value → Shared → Prop} (ra : VR (ats led) a va)
    (M : MemC C f mF ((I, oI) :: aux) led σ s.heap) (st : ItSt kd va len j oI)
    (q : ∀ oI' h' tk val, MemC C f mF ((I, oI') :: aux) led σ h' → ItSt kd va len (j + 1) oI' → VR (ats led) v val → Q (some val) { s with heap := h', toks := tk }) : wpAny (model C.prog C.w) A (pyNext (.ref I)) Q E s := by
  have gI := M.auxGet
  unfold kdOf at h
  unfold itemAt at hv
  split at h
  · rename_i k
    split at h <;> first | (cases h; done) | skip
    · rename_i vs e
      cases h
      simp only [e] at hv
      obtain ⟨x, its, m, rfl, h1, h2, h3, h4⟩ := list_at M e ra
      obtain ⟨val, g1, g2⟩ := h2.get hv
      refine wpAny_pyNext_list_item ⟨_, gI, st.1, st.2⟩ h4 (by simpa using g1) fun h' it' hs => ?_
      obtain ⟨o', b1, b2, b3⟩ := it'
      exact q _ _ _ _ (M.auxHead hs b1) ⟨b2, b3⟩ g2
    · rename_i vs e
      cases h
      simp only [e] at hv
      obtain ⟨x, its, m, rfl, h1, h2, h3, h4⟩ := tup_at M e ra
      obtain ⟨val, g1, g2⟩ := h2.get hv
      refine wpAny_pyNext_tuple_item ⟨_, gI, st.1, st.2⟩ h4 (by simpa using g1) fun h' it' hs => ?_
      obtain ⟨o', b1, b2, b3⟩ := it'
      exact q _ _ _ _ (M.auxHead hs b1) ⟨b2, b3⟩ g2
    · rename_i kvs ep e
      cases h
      simp only [e] at hv
      obtain ⟨p, hp, rfl⟩ := Option.map_eq_some_iff.mp hv
      obtain ⟨x, kv, rfl, h1, h2⟩ := dictAt_of M e ra
      obtain ⟨⟨c, val⟩, g1, g2⟩ := h2.get hp
      have hc : p.1 = c := g2.1
      subst hc
      refine wpAny_pyNext_dict_item (kvs := kv) ⟨_, gI, st.1, by rw [← h2.length]; exact st.2⟩ h1 g1 fun key h' hk it' hs => ?_
      obtain ⟨o', b1, b2, b3⟩ := it'
      refine q _ _ _ _ (M.auxHead hs b1) ⟨b2, by rw [h2.length]; exact b3⟩ ?_
      obtain ⟨t, rfl⟩ := Value.isInt_shape hk
      rfl
    · rename_i x y e
      split at h
      · rename_i hs
        cases h
        simp only [e] at hv
        cases hv
        have st : oI = _ := st
        subst st
        refine wpAny_pyNext_range_item gI (by omega) fun h' it' hs' => ?_
        refine q _ _ _ _ (M.auxHead hs' it') ?_ rfl
        show _ = _
        simp [Int.add_assoc, Int.sub_sub]
      · cases h
  · rename_i g
    obtain ⟨vs, ht, h⟩ := Option.map_eq_some_iff.mp h
    cases h
    simp only [ht, Option.bind_some] at hv
    obtain rfl := ra.glob_inv
    obtain ⟨its, m, dd, sl, hl, h2, h3⟩ := tk.tup _ _ ht
    have h4 : IsTup s.heap g its.toArray := tupK (ok.X.keeps M.fr.keep) hl
    obtain ⟨val, g1, g2⟩ := h2.get hv
    refine wpAny_pyNext_tuple_item ⟨_, gI, st.1, st.2⟩ h4 (by simpa using g1) fun h' it' hs => ?_
    obtain ⟨o', b1, b2, b3⟩ := it'
    exact q _ _ _ _ (M.auxHead hs b1) ⟨b2, b3⟩ (g2.mono List.nil_prefix)
  · cases h
theorem iter_end {T : Tab} (ok : FmOk C f) (tk : TabOk C T) {a : V} {σ : St} {kd : Kd} {len : Nat} (h : kdOf T a σ = some (kd, len)) {A : Around} (hh : A.handled = none) {mF : Str → Option Value} {aux led : Led} {va : Value} {I : Addr} {oI : Obj} {s : Shared} {Q : Option Value → Shared → Prop} {E : Value → Shared → Prop} (ra : VR (ats led) a va)
    (M : MemC C f mF ((I, oI) :: aux) led σ s.heap) (st : ItSt kd va len len oI)
    (q : ∀ h', MemC C f mF aux led σ h' → Q none { s with heap := h' }) : wpAny (model C.prog C.w) A (pyNext (.ref I)) Q E s := by
  have gI := M.auxGet
  unfold kdOf at h
  split at h
  · rename_i k
    split at h <;> first | (cases h; done) | skip
    · rename_i vs e
      cases h
      obtain ⟨x, its, m, rfl, h1, h2, h3, h4⟩ := list_at M e ra
      exact wpAny_pyNext_list_end hh ⟨_, gI, st.1, st.2⟩ h4 (by simp [h2.length]) fun h' hs => q _ (M.auxDrop hs)
    · rename_i vs e
      cases h
      obtain ⟨x, its, m, rfl, h1, h2, h3, h4⟩ := tup_at M e ra
      exact wpAny_pyNext_tuple_end hh ⟨_, gI, st.1, st.2⟩ h4 (by simp [h2.length]) fun h' hs => q _ (M.auxDrop hs)
    · rename_i kvs ep e
      cases h
      obtain ⟨x, kv, rfl, h1, h2⟩ := dictAt_of M e ra
      exact wpAny_pyNext_dict_end (kvs := kv) hh ⟨_, gI, st.1, by rw [← h2.length]; exact st.2⟩ h1 (by simp [h2.length]) fun h' hs => q _ (M.auxDrop hs)
    · rename_i x y e
      split at h
      · rename_i hs
        cases h
        have st : oI = _ := st
        subst st
        exact wpAny_pyNext_range_end hh gI (by omega) fun h' hs => q _ (M.auxDrop hs)
      · cases h
  · rename_i g
    obtain ⟨vs, ht, h⟩ := Option.map_eq_some_iff.mp h
    cases h
    obtain rfl := ra.glob_inv
    obtain ⟨its, m, dd, sl, hl, h2, h3⟩ := tk.tup _ _ ht
    have h4 : IsTup s.heap g its.toArray := tupK (ok.X.keeps M.fr.keep) hl
    exact wpAny_pyNext_tuple_end hh ⟨_, gI, st.1, st.2⟩ h4 (by simp [h2.length]) fun h' hs => q _ (M.auxDrop hs)
  · cases h
theorem iter_self {kd : Kd} {va : Value} {len j : Nat} {oI : Obj} {A : Around} {mF : Str → Option Value} {aux led : Led} {σ : St} {I : Addr} {s : Shared} {Q : Value → Shared → Prop} {E : Value → Shared → Prop} (M : MemC C f mF ((I, oI) :: aux) led σ s.heap) (st : ItSt kd va len j oI) (hr : ∃ a, va = .ref a)
    (q : Q (.ref I) s) : wpAny (model C.prog C.w) A (pyIter (.ref I)) Q E s := by
  have gI := M.auxGet
  obtain ⟨x, rfl⟩ := hr
  cases kd with
  | list => exact wpAny_pyIter_listiter (l := x) ⟨_, gI, st.1, st.2⟩ q
  | tup => exact wpAny_pyIter_tupleiter (t := x) (i := j) ⟨_, gI, st.1, st.2⟩ q
  | dict e => exact wpAny_pyIter_keyiter (d := x) ⟨_, gI, st.1, st.2⟩ q
  | rng a =>
    have st : oI = _ := st
    subst st
    exact wpAny_pyIter_rangeiter gI q
end
end Mine

end
section
open PySem PySem.W PyProof.Rows PySem.Calls PySem.Spec PyProof.V PySem.SeqAt
set_option linter.unusedSimpArgs false
set_option linter.unusedVariables false
set_option autoImplicit false
set_option Elab.async false
namespace Mine
/-! ## targets, loops -/
abbrev TF := V → Le → St → Option (List (Option V) × St)
section
variable (C : Ctx) (f : Fm)
structure TG (n : Nat) (t : Expr) (tf : TF) : Prop where
  p : ∀ v le σ lo' σ', tf v le σ = some (lo', σ') → ∀ m aux led A, AOk f n A → f.env.locals = f.L → LeR f (ats led) m le → ∀ s Q E val, MemC C f m aux led σ s.heap → VR (ats led) v val →
  (∀ m' led' h' tk, ats led <+: ats led' → MemC C f m' aux led' σ' h' → LeR f (ats led') m' ⟨lo', le.cl⟩ → Q () { s with heap := h', toks := tk }) → wpAny (model C.prog C.w) A (assign t f.env val) Q E s
end
def tgL (i : Nat) : TF := fun v le σ => some (setLo i v le.lo, σ)
def tgC (j : Nat) : TF := fun v le σ => (cellAtV le.cl j v σ).map fun σ' => (le.lo, σ')
/-- store values in order -/
def stores : List TF → List V → TF
  | [], [], _, le, σ => some (le.lo, σ)
  | t :: ts, v :: vs, w, le, σ => (t v le σ).bind fun p => stores ts vs w ⟨p.1, le.cl⟩ p.2
  | _, _, _, _, _ => none
def tgT (ts : List TF) : TF := fun v le σ => match v with
  | .ref k => match σ[k]? with
    | some (.tup vs) => stores ts vs v le σ
    | _ => none
  | _ => none
section
variable {C : Ctx} {f : Fm} {n : Nat}
theorem tg_L (ok : FmOk C f) {x : Str} {i : Nat} {p : Pos} (hx : f.xs[i]? = some x) : TG C f n (.Name x p) (tgL i) := by
  refine ⟨?_⟩
  intro v le σ lo' σ' h m aux led A a hl l s Q E val M r q
  cases h
  exact wpAny_assign_Name (store_local ok hx hl l M r fun h' m' M2 l2 => q m' led h' _ (List.prefix_refl _) M2 l2)
theorem tg_C (ok : FmOk C f) {x : Str} {j : Nat} {p : Pos} (hx : f.cs[j]? = some x) : TG C f n (.Name x p) (tgC j) := by
  refine ⟨?_⟩
  intro v le σ lo' σ' h m aux led A a hl l s Q E val M r q
  obtain ⟨σ2, hc, e⟩ := Option.map_eq_some_iff.mp h
  cases e
  refine wpAny_assign_Name (store_cell ok hx l M r hc fun h' led' ek M2 => ?_)
  exact q m led' h' _ (by rw [ek]; exact List.prefix_refl _) M2 (by rw [ek]; exact l)
inductive TGs (C : Ctx) (f : Fm) (n : Nat) : List Expr → List TF → Prop
  | nil : TGs C f n [] []
  | cons {t : Expr} {ts : List Expr} {tf : TF} {tfs : List TF} : TG C f n t tf → assignEach (t :: ts) f.env = (false, assign t f.env) :: assignEach ts f.env → TGs C f n ts tfs → TGs C f n (t :: ts) (tf :: tfs)
theorem TGs.len {ts : List Expr} {tfs : List TF} (h : TGs C f n ts tfs) : (assignEach ts f.env).length = tfs.length ∧ (assignEach ts f.env).findIdx? (·.1) = none := by
  induction h with
  | nil => exact ⟨rfl, rfl⟩
  | cons h1 h2 h3 ih =>
    rw [h2]
    refine ⟨by simp [ih.1], ?_⟩
    rw [List.findIdx?_cons]
    simp [ih.2]
theorem stores_ok {ts : List Expr} {tfs : List TF} (h : TGs C f n ts tfs) : ∀ {vs : List V} {w : V} {le : Le} {σ : St} {lo' : List (Option V)} {σ' : St}, stores tfs vs w le σ = some (lo', σ') → ∀ {m : Str → Option Value} {aux led : Led} {A : Around}, AOk f n A → f.env.locals = f.L → LeR f (ats led) m le →
    ∀ {s : Shared} {Q : Unit → Shared → Prop} {E : Value → Shared → Prop} {vals : List Value}, MemC C f m aux led σ s.heap → All2 (VR (ats led)) vs vals →
    (∀ m' led' h' tk, ats led <+: ats led' → MemC C f m' aux led' σ' h' → LeR f (ats led') m' ⟨lo', le.cl⟩ → Q () { s with heap := h', toks := tk }) → wpAny (model C.prog C.w) A (assignInOrder ((assignEach ts f.env).map (·.2)) vals) Q E s := by
  induction h with
  | nil =>
    intro vs w le σ lo' σ' h m aux led A a hl l s Q E vals M r q
    cases vs with
    | nil => cases h; exact assignInOrder_nil (q m led s.heap s.toks (List.prefix_refl _) M l)
    | cons => cases h
  | cons h1 h2 h3 ih =>
    intro vs w le σ lo' σ' h m aux led A a hl l s Q E vals M r q
    cases vs with
    | nil => cases h
    | cons v vs =>
      obtain ⟨⟨lo1, σ1⟩, g1, g2⟩ := Option.bind_eq_some_iff.mp h
      obtain ⟨val, vals', rfl, r1, r2⟩ := r.cons_inv
      rw [h2, List.map_cons]
      refine assignInOrder_cons (h1.p v le σ lo1 σ1 g1 m aux led A a hl l s _ E val M r1 fun m1 led1 hp1 tk1 p1 M1 l1 => ?_)
      exact ih g2 a hl l1 M1 (r2.imp fun _ _ => VR.mono p1) fun m' led' h' tk p M' l' => q m' led' h' tk (p1.trans p) M' l'
theorem stores_len {tfs : List TF} : ∀ {vs : List V} {w : V} {le : Le} {σ : St} {r : List (Option V) × St}, stores tfs vs w le σ = some r → tfs.length = vs.length := by
  induction tfs with
  | nil => intro vs w le σ r h; cases vs <;> first | rfl | cases h
  | cons t ts ih =>
    intro vs w le σ r h
    cases vs with
    | nil => cases h
    | cons v vs =>
      obtain ⟨p, _, g⟩ := Option.bind_eq_some_iff.mp h
      simp [ih g]
/-- a heap that has grown at the new places alone -/
theorem Mem.ext {mF : Str → Option Value} {aux led : Led} {σ : St} {h h' : Heap} (M : MemC C f mF aux led σ h) (hs : Heap.ExtBut h.objs.size h h') : MemC C f mF aux led σ h' := by
  have key : ∀ b o, h.get? b = some o → h'.get? b = some o := fun b o e => hs b o (Nat.ne_of_lt (Heap.lt_size e)) e
  exact M.keeps key
theorem tg_T {ts : List Expr} {tfs : List TF} {k : Nat} {p : Pos} (h : TGs C f n ts tfs) : TG C f n (.Tuple ts k p) (tgT tfs) := by
  refine ⟨?_⟩
  intro v le σ lo' σ' hv m aux led A a hl l s Q E val M r q
  unfold tgT at hv
  split at hv <;> first | (cases hv; done) | skip
  split at hv <;> first | (cases hv; done) | skip
  rename_i k' vs e
  obtain ⟨x, its, m', rfl, h1, h2, h3, h4⟩ := tup_at M e r
  obtain ⟨l1, l2⟩ := h.len
  refine assign_Tuple_tuple a.handled h4 (by rw [l1, stores_len hv, h2.length]; simp) l2 fun h' hs => ?_
  exact stores_ok h hv a hl l (M.ext hs) h2 fun m' led' h'' tk p M' l' => q m' led' h'' tk p M' l'
theorem ss_asgT {ts : List Expr} {tfs : List TF} {k : Nat} {p pos : Pos} {e : Expr} {ev : EF} (ht : TGs C f n ts tfs) (he : SE C f n e ev)
    (hs : swapsWithSole [.Tuple ts k p] e pos.line f.env = pure false) (hw : swappedStores [.Tuple ts k p] e f.env = pure none) :
    SS C f n (.Assign [.Tuple ts k p] e pos) (fun le σ => bindE le.lo (ev le σ) fun v σ1 => (tgT tfs v le σ1).map fun p => .ok .next p.1 p.2) := by
  refine ⟨?_⟩
  intro le σ r h m aux led A a hl l s Q E M P
  refine PyProof.Rows.Assign_Tuple (stepE h (fun r1 q => he.p le σ r1 q) a hl l M P fun x σ1 led1 hp1 tk1 b hk p1 M1 R1 l1 P1 => ?_) hs hw
  obtain ⟨⟨lo2, σ2⟩, g, rfl⟩ := Option.map_eq_some_iff.mp hk
  refine (tg_T (k := k) (p := p) ht).p x le σ1 lo2 σ2 g m aux led1 A a hl l1 _ _ E b M1 R1 fun m' led' h' tk p M' l' => ?_
  exact P1 m' led' h' tk _ p M' l' (by trivial)
/-- the display's items are stored from the last one on -/
theorem ss_asgTsw {ts : List Expr} {tfs : List TF} {names : List Str} {k : Nat} {p pos : Pos} {e : Expr} {ev : EF} (he : SE C f n e ev)
    (hst : ∀ (vs : List V) (w : V) (le : Le) (σ : St) (lo' : List (Option V)) (σ' : St), stores tfs vs w le σ = some (lo', σ') → ∀ (m : Str → Option Value) (aux led : Led) (A : Around), AOk f n A → f.env.locals = f.L → LeR f (ats led) m le →
      ∀ (s : Shared) (Q : Unit → Shared → Prop) (E : Value → Shared → Prop) (vals : List Value), MemC C f m aux led σ s.heap → All2 (VR (ats led)) vs vals →
      (∀ m' led' h' tk, ats led <+: ats led' → MemC C f m' aux led' σ' h' → LeR f (ats led') m' ⟨lo', le.cl⟩ → Q () { s with heap := h', toks := tk }) → wpAny (model C.prog C.w) A (assignInOrder (names.reverse.map fun n => bindName f.env n) vals) Q E s)
    (hln : tfs.length = names.length)
    (hs : swapsWithSole [.Tuple ts k p] e pos.line f.env = pure false) (hw : swappedStores [.Tuple ts k p] e f.env = pure (some names)) :
    SS C f n (.Assign [.Tuple ts k p] e pos) (fun le σ => bindE le.lo (ev le σ) fun v σ1 => match v with
      | .ref i => match σ1[i]? with
        | some (.tup vs) => (stores tfs vs.reverse v le σ1).map fun p => .ok .next p.1 p.2
        | _ => none
      | _ => none) := by
  refine ⟨?_⟩
  intro le σ r h m aux led A a hl l s Q E M P
  refine PyProof.Rows.Assign_Tuple_swapped (stepE h (fun r1 q => he.p le σ r1 q) a hl l M P fun x σ1 led1 hp1 tk1 b hk p1 M1 R1 l1 P1 => ?_) hs hw
  split at hk <;> first | (cases hk; done) | skip
  split at hk <;> first | (cases hk; done) | skip
  rename_i i vs e
  obtain ⟨⟨lo2, σ2⟩, g, rfl⟩ := Option.map_eq_some_iff.mp hk
  obtain ⟨y, its, m', rfl, h1, h2, h3, h4⟩ := tup_at M1 e R1
  have hsz : its.toArray.size = names.length := by rw [List.size_toArray, ← h2.length, ← hln, stores_len g, List.length_reverse]
  rw [← hsz]
  refine unpackItems_tuple a.handled h4 fun h' hs' => ?_
  refine hst vs.reverse _ le σ1 lo2 σ2 g m aux led1 A a hl l1 _ _ E _ (M1.ext hs') (by simpa using h2.reverse) fun m' led' h'' tk p M' l' => ?_
  exact P1 m' led' h'' tk _ p M' l' (by trivial)
/-- an exception on its way out of a loop -/
theorem RaisedAt.loop {A : Around} (a : AOk f n A) {m : Str → Option Value} {aux led : Led} {σ : St} {x : X} {e : Addr} {s : Shared} {E : Value → Shared → Prop} (hR : RaisedAt C f m aux led σ x e s.heap)
    (h : ∀ h' tk, RaisedAt C f m aux led σ x e h' → E (.ref e) { s with heap := h', toks := tk }) : notedBy (model C.prog C.w) A f.env (fun e s' => cameBackBy (model C.prog C.w) A f.env E e s') (.ref e) s := hR.elim
theorem RaisedAt.drop {m : Str → Option Value} {aux led : Led} {σ : St} {x : X} {e : Addr} {h : Heap} {p : Addr × Obj} (hR : RaisedAt C f m (p :: aux) led σ x e h) : RaisedAt C f m aux led σ x e h := hR.elim
theorem PostS.loopE {A : Around} (a : AOk f n A) {cl : List Nat} {aux led : Led} {s : Shared} {Q : Flow → Shared → Prop} {E : Value → Shared → Prop} {x : X} {lo : List (Option V)} {σ : St} (P : PostS C f cl aux led s Q E (.exc x lo σ)) {Q' : Flow → Shared → Prop} :
    PostS C f cl aux led s Q' (notedBy (model C.prog C.w) A f.env (fun e s' => cameBackBy (model C.prog C.w) A f.env E e s')) (.exc x lo σ) := by
  intro m' led' h' tk e p l hR
  exact hR.loop (s := { s with heap := h', toks := tk }) a fun h'' tk' hR' => P m' led' h'' tk' e p l hR'
theorem PostS.loopA {A : Around} (a : AOk f n A) {cl : List Nat} {aux led : Led} {q : Addr × Obj} {s : Shared} {Q : Flow → Shared → Prop} {E : Value → Shared → Prop} {x : X} {lo : List (Option V)} {σ : St} (P : PostS C f cl aux led s Q E (.exc x lo σ)) {Q' : Flow → Shared → Prop} :
    PostS C f cl (q :: aux) led s Q' (notedBy (model C.prog C.w) A f.env (fun e s' => cameBackBy (model C.prog C.w) A f.env E e s')) (.exc x lo σ) := by
  intro m' led' h' tk e p l hR
  exact hR.drop.loop (s := { s with heap := h', toks := tk }) a fun h'' tk' hR' => P m' led' h'' tk' e p l hR'
end
/-! ### while -/
def whileL (c : EFb) (b : SF) : Nat → SF
  | 0 => noS
  | k + 1 => fun le σ => bindE le.lo (c le σ) fun t σ1 => if t then (match b le σ1 with
      | some (.ok .next lo σ2) => whileL c b k ⟨lo, le.cl⟩ σ2
      | some (.ok .cont lo σ2) => whileL c b k ⟨lo, le.cl⟩ σ2
      | some (.ok .brk lo σ2) => some (.ok .next lo σ2)
      | r => r) else some (.ok .next le.lo σ1)
section
variable {C : Ctx} {f : Fm} {n : Nat}
theorem ss_while {c : Expr} {b : List Stmt} {pos : Pos} {ec : EFb} {eb : SF} {k : Nat} (hc : SB C f n c ec) (hb : SL C f n b eb) : SS C f n (.While c b [] pos) (whileL ec eb k) := by
  refine ⟨?_⟩
  intro le σ r h m aux led A a hl l s Q E M P
  refine wpAny_While (codeAny_whileLoop (fun k s => ∃ lo σ m led, whileL ec eb k ⟨lo, le.cl⟩ σ = some r ∧ MemC C f m aux led σ s.heap ∧ LeR f (ats led) m ⟨lo, le.cl⟩ ∧ PostS C f le.cl aux led s Q E r) ?_ k ⟨le.lo, σ, m, led, h, M, l, P⟩)
  rintro k s ⟨lo, σ, m, led, h, M, l, P⟩
  cases k with
  | zero => cases h
  | succ k =>
    unfold whileL at h
    cases hcv : ec ⟨lo, le.cl⟩ σ with
    | none => rw [hcv] at h; cases h
    | some r1 =>
      rw [hcv] at h
      refine hc.p ⟨lo, le.cl⟩ σ r1 hcv m m aux led A a (.fn hl rfl) l s _ _ M ?_
      cases r1 with
      | exc x σ1 =>
        cases h
        intro led' h' tk e p hR
        exact P.loopE a (Q' := Q) m led' h' tk e p (l.mono p) hR
      | ok t σ1 =>
        intro led1 hp1 tk1 b' p1 M1 R1
        have l1 := l.mono p1
        have P1 := P.step (h1 := hp1) (tk1 := tk1) p1
        subst R1
        cases t with
        | false => cases h; exact wpAny_execs_nil (P1.here M1 l1 (by trivial))
        | true =>
          simp only [bindE, if_true] at h
          cases hbv : eb ⟨lo, le.cl⟩ σ1 with
          | none => rw [hbv] at h; cases h
          | some r2 =>
            rw [hbv] at h
            refine hb.p ⟨lo, le.cl⟩ σ1 r2 hbv m aux led1 A a hl l1 _ _ _ M1 ?_
            cases r2 with
            | exc x lo2 σ2 => cases h; exact P1.loopE a
            | ok fl lo2 σ2 =>
              cases fl with
              | next =>
                intro m2 led2 h2 tk2 flv p2 M2 l2 hf
                obtain rfl := hf.next_inv
                exact ⟨k, Nat.lt_succ_self _, lo2, σ2, m2, led2, h, M2, l2, P1.step p2⟩
              | cont =>
                intro m2 led2 h2 tk2 flv p2 M2 l2 hf
                obtain rfl := hf.cont_inv
                exact ⟨k, Nat.lt_succ_self _, lo2, σ2, m2, led2, h, M2, l2, P1.step p2⟩
              | brk =>
                cases h
                intro m2 led2 h2 tk2 flv p2 M2 l2 hf
                obtain rfl := hf.brk_inv
                exact P1 m2 led2 h2 tk2 _ p2 M2 l2 (by trivial)
              | ret v =>
                cases h
                intro m2 led2 h2 tk2 flv p2 M2 l2 hf
                obtain ⟨w, rfl, _⟩ := hf.ret_inv
                exact P1 m2 led2 h2 tk2 _ p2 M2 l2 hf
end
/-! ### for -/
def forL (T : Tab) (a : V) (kd : Kd) (len : Nat) (tf : TF) (b : SF) : Nat → SF
  | 0 => fun le σ => if kdOf T a σ = some (kd, len) then some (.ok .next le.lo σ) else none
  | k + 1 => fun le σ => if kdOf T a σ = some (kd, len) then (itemAt T a (len - (k + 1)) σ).bind fun v => (tf v le σ).bind fun p => match b ⟨p.1, le.cl⟩ p.2 with
      | some (.ok .next lo σ2) => forL T a kd len tf b k ⟨lo, le.cl⟩ σ2
      | some (.ok .cont lo σ2) => forL T a kd len tf b k ⟨lo, le.cl⟩ σ2
      | some (.ok .brk lo σ2) => some (.ok .next lo σ2)
      | r => r
    else none
def forS (T : Tab) (tup : Bool) (it : EF) (tf : TF) (b : SF) : SF := fun le σ => bindE le.lo (it le σ) fun a σ1 => (kdOf T a σ1).bind fun p => if tup = false ∨ p.1 = .list then forL T a p.1 p.2 tf b p.2 le σ1 else none
section
variable {C : Ctx} {f : Fm} {n : Nat}
theorem kdOf_ref {T : Tab} {a : V} {σ : St} {p : Kd × Nat} (h : kdOf T a σ = some p) {ρ : List Addr} {va : Value} (r : VR ρ a va) : ∃ x, va = .ref x := by
  cases a with
  | ref k => obtain ⟨x, rfl, _⟩ := r.ref_inv; exact ⟨x, rfl⟩
  | glob g => obtain rfl := r.glob_inv; exact ⟨_, rfl⟩
  | _ => cases h
theorem ss_for {T : Tab} (ok : FmOk C f) (tk : TabOk C T) {t it : Expr} {b : List Stmt} {pos : Pos} {tup : Bool} {ei : EF} {tf : TF} {eb : SF} (hi : SE C f n it ei) (ht : TG C f n t tf) (hb : SL C f n b eb)
    (hgo : (tup = false ∧ ∀ i v, letOwnedTupleGo t i v = pure ()) ∨ (tup = true ∧ (∃ elts k p, t = .Tuple elts k p) ∧ ∀ v le σ r, tf v le σ = some r → ∃ k, v = .ref k))
    (hs : ∀ x, foldedSetIterable it f.env x = pure x) : SS C f n (.For t it b [] pos) (forS T tup ei tf eb) := by
  refine ⟨?_⟩
  intro le σ r h m aux led A a hl l s Q E M P
  refine wpAny_For (stepE h (fun r1 q => hi.p le σ r1 q) a hl l M P fun x σ1 led1 hp1 tk1 vx hk p1 M1 R1 l1 P1 => ?_) hs
  obtain ⟨⟨kd, len⟩, hkd, hk⟩ := Option.bind_eq_some_iff.mp hk
  dsimp only at hk
  split at hk <;> first | (cases hk; done) | skip
  rename_i htl
  refine iter_start ok tk hkd R1 M1 fun I oI h2 M2 st => ?_
  refine codeAny_forLoop_any (fun k s => ∃ lo σ m led oI, forL T x kd len tf eb k ⟨lo, le.cl⟩ σ = some r ∧ k ≤ len ∧ VR (ats led) x vx ∧ MemC C f m ((I, oI) :: aux) led σ s.heap ∧ ItSt kd vx len (len - k) oI ∧ LeR f (ats led) m ⟨lo, le.cl⟩ ∧ PostS C f le.cl aux led s Q E r) ?_ len
    ⟨le.lo, σ1, m, led1, oI, hk, Nat.le_refl _, R1, M2, by rw [Nat.sub_self]; exact st, l1, P1.step (List.prefix_refl _)⟩
  rintro k s ⟨lo, σ, m, led, oI, h, hkl, R, M, st, l, P⟩
  cases k with
  | zero =>
    unfold forL at h
    split at h <;> first | (cases h; done) | skip
    rename_i hkd'
    cases h
    refine iter_end ok tk hkd' a.handled R M (by simpa using st) fun h' M' => ?_
    exact wpAny_execs_nil (P m led h' s.toks _ (List.prefix_refl _) M' l (by trivial))
  | succ k =>
    unfold forL at h
    split at h <;> first | (cases h; done) | skip
    rename_i hkd'
    obtain ⟨v, hv, h⟩ := Option.bind_eq_some_iff.mp h
    obtain ⟨⟨lo1, σ1'⟩, htf, h⟩ := Option.bind_eq_some_iff.mp h
    refine iter_item ok tk hkd' hv (by omega) R M st fun oI' h' tk' val M' st' rv => ?_
    have ej : len - (k + 1) + 1 = len - k := by omega
    rw [ej] at st'
    have P' := P.step (h1 := h') (tk1 := tk') (List.prefix_refl _)
    have go : ∀ (Q' : Unit → Shared → Prop) (E' : Value → Shared → Prop), Q' () { s with heap := h', toks := tk' } → wpAny (model C.prog C.w) A (letOwnedTupleGo t (.ref I) val) Q' E' { s with heap := h', toks := tk' } := by
      intro Q' E' q
      rcases hgo with ⟨_, g⟩ | ⟨g1, ⟨elts, k', p, rfl⟩, g3⟩
      · rw [g]; exact wpAny_pure q
      · obtain ⟨k2, rfl⟩ := g3 _ _ _ _ htf
        obtain ⟨y, rfl, _⟩ := rv.ref_inv
        obtain ⟨z, rfl⟩ := kdOf_ref hkd' R
        rcases htl with e | e
        · rw [g1] at e; cases e
        · subst e
          exact wpAny_letOwnedTupleGo_listiter (l := z) (i := len - k) ⟨_, M'.auxGet, st'.1, st'.2⟩ q
    refine go _ _ ?_
    refine ht.p v ⟨lo, le.cl⟩ σ lo1 σ1' htf m _ led A a hl l _ _ _ val M' rv fun m1 led1 hp1 tk1 p1 M1 l1 => ?_
    have P1 := P'.step (h1 := hp1) (tk1 := tk1) p1
    cases hbv : eb ⟨lo1, le.cl⟩ σ1' with
    | none => rw [hbv] at h; cases h
    | some r2 =>
      rw [hbv] at h
      refine hb.p ⟨lo1, le.cl⟩ σ1' r2 hbv m1 _ led1 A a hl l1 _ _ _ M1 ?_
      cases r2 with
      | exc x lo2 σ2 => cases h; exact P1.loopA a
      | ok fl lo2 σ2 =>
        cases fl with
        | next =>
          intro m2 led2 h2 tk2 flv p2 M2 l2 hf
          obtain rfl := hf.next_inv
          exact ⟨k, Nat.lt_succ_self _, lo2, σ2, m2, led2, oI', h, by omega, R.mono (p1.trans p2), M2, st', l2, P1.step p2⟩
        | cont =>
          intro m2 led2 h2 tk2 flv p2 M2 l2 hf
          obtain rfl := hf.cont_inv
          exact ⟨k, Nat.lt_succ_self _, lo2, σ2, m2, led2, oI', h, by omega, R.mono (p1.trans p2), M2, st', l2, P1.step p2⟩
        | brk =>
          cases h
          intro m2 led2 h2 tk2 flv p2 M2 l2 hf
          obtain rfl := hf.brk_inv
          exact P1 m2 led2 h2 tk2 _ p2 (M2.auxDrop fun _ _ _ e => e) l2 (by trivial)
        | ret v =>
          cases h
          intro m2 led2 h2 tk2 flv p2 M2 l2 hf
          obtain ⟨w, rfl, _⟩ := hf.ret_inv
          exact P1 m2 led2 h2 tk2 _ p2 (M2.auxDrop fun _ _ _ e => e) l2 hf
end
end Mine

end
section
open PySem PySem.W PyProof.Rows PySem.Calls PySem.Spec PyProof.V PySem.SeqAt
set_option linter.unusedSimpArgs false
set_option linter.unusedVariables false
set_option autoImplicit false
set_option Elab.async false
namespace Mine
/-! ## what is built in: lists -/
section
variable (C : Ctx) (f : Fm)
/-- a builtin that does what the evaluator says -/
def BC (n : Nat) (fn : Value) (bv : List V → St → Option (Rs V)) : Prop := ∀ vs σ r, bv vs σ = some r → ∀ A mF aux led vals, AOk f n A → All2 (VR (ats led)) vs vals → Does C f VR A mF aux led σ (call fn vals) r
end
section
variable {C : Ctx} {f : Fm} {n : Nat}
theorem Mem.put {mF : Str → Option Value} {aux led : Led} {σ : St} {h h' : Heap} (M : MemC C f mF aux led σ h) {k : Nat} {a : Addr} {ob ob' : Obj} {o' : O} (e : led[k]? = some (a, ob)) (hs : Heap.SameBut a h h') (ho : h'.get? a = some ob') (r : ObjR C.prog C.w (ats led) o' ob') :
    MemC C f mF aux (led.set k (a, ob')) (σ.set k o') h' ∧ ats (led.set k (a, ob')) = ats led := by
  have hm := M.nw (a, ob) (List.mem_append_left _ (mem_of_get e))
  refine M.set e (M.fr.change hs hm.2.1 hm.2.2) (fun p hp => ?_) r
  obtain ⟨i, hi⟩ := List.getElem?_of_mem hp
  rw [List.getElem?_set] at hi
  by_cases hik : k = i
  · subst hik
    have lt := (List.getElem?_eq_some_iff.mp (Mem.left (aux := aux) e)).1
    simp only [if_true, lt] at hi
    cases hi
    exact ⟨ho, hm.2⟩
  · rw [if_neg hik] at hi
    have hp' := M.nw p (mem_of_get hi)
    refine ⟨hs.extBut _ _ (fun q => hik ?_) hp'.1, hp'.2⟩
    obtain ⟨b, o⟩ := p
    have q : b = a := q
    subst q
    exact nodup_key M.nd (Mem.left e) hi
theorem All2.eraseIdx {α β : Type} {R : α → β → Prop} {as : List α} {bs : List β} (h : All2 R as bs) (i : Nat) : All2 R (as.eraseIdx i) (bs.eraseIdx i) := by
  rw [List.eraseIdx_eq_take_drop_succ, List.eraseIdx_eq_take_drop_succ]
  exact (h.take i).append (h.drop (i + 1))
/-- a list's new items -/
theorem Mem.putList {mF : Str → Option Value} {aux led : Led} {σ : St} {h : Heap} (M : MemC C f mF aux led σ h) {k : Nat} {a : Addr} {its its' : List Value} {m : Nat} {vs' : List V} {g : Array Value → Array Value} (e : led[k]? = some (a, listOf (List.toArray its) m)) (hg : g its.toArray = its'.toArray)
    (r : All2 (VR (ats led)) vs' its') (z : vs'.length ≤ sizeLine) :
    ∃ led', MemC C f mF aux led' (σ.set k (.list vs')) (h.update a (Obj.mapSeq g)) ∧ ats led' = ats led := by
  have q := PySem.IsL.update (M.get e) g
  rw [hg] at q
  obtain ⟨M', ek⟩ := M.put (o' := .list vs') e (Heap.SameBut.update ..) q ⟨its', _, rfl, r, z⟩
  exact ⟨_, M', ek⟩
/-! ### len -/
def lenV (T : Tab) : List V → St → Option (Rs V)
  | [.ref k], σ => match σ[k]? with
    | some (.list vs) => some (.ok (.int vs.length) σ)
    | some (.tup vs) => some (.ok (.int vs.length) σ)
    | some (.dict vs _) => some (.ok (.int vs.length) σ)
    | _ => none
  | [.glob g], σ => (T.tups g).map fun vs => .ok (.int vs.length) σ
  | _, _ => none
theorem bc_len {T : Tab} (ok : FmOk C f) (tk : TabOk C T) : BC C f n (.builtin "len") (lenV T) := by
  intro vs σ r h A mF aux led vals a rv s Q E M P
  unfold lenV at h
  split at h
  · rename_i k
    obtain ⟨v, vals', rfl, rv1, rv2⟩ := rv.cons_inv
    obtain rfl := rv2.nil_inv
    split at h <;> first | (cases h; done) | skip
    · rename_i us e
      cases h
      obtain ⟨x, its, m, rfl, h1, h2, h3, h4⟩ := list_at M e rv1
      have z := size_of h2 h3
      refine call_len_list h4 (by simp; omega) (P led s.heap _ _ (List.prefix_refl _) M ?_)
      show _ = _
      simp [h2.length]
    · rename_i us e
      cases h
      obtain ⟨x, its, m, rfl, h1, h2, h3, h4⟩ := tup_at M e rv1
      have z := size_of h2 h3
      refine PyProof.Rows.len_tuple h4 (by simp; omega) (P led s.heap _ _ (List.prefix_refl _) M ?_)
      show _ = _
      simp [h2.length]
    · rename_i us ep e
      cases h
      obtain ⟨x, ob, kv, rfl, h1, h2, h3, h4, h5, h6⟩ := dict_at ok M e rv1
      have z := size_of h3 h4
      refine call_len_dict h6 h5 (by omega) (P led s.heap _ _ (List.prefix_refl _) M ?_)
      show _ = _
      simp [h3.length]
  · rename_i g
    obtain ⟨us, ht, h⟩ := Option.map_eq_some_iff.mp h
    cases h
    obtain ⟨v, vals', rfl, rv1, rv2⟩ := rv.cons_inv
    obtain rfl := rv2.nil_inv
    obtain rfl := rv1.glob_inv
    obtain ⟨its, m, dd, sl, hl, h2, h3⟩ := tk.tup _ _ ht
    have z := size_of h2 h3
    have h4 : IsTup s.heap g its.toArray := tupK (ok.X.keeps M.fr.keep) hl
    refine PyProof.Rows.len_tuple h4 (by simp; omega) (P led s.heap _ _ (List.prefix_refl _) M ?_)
    show _ = _
    simp [h2.length]
  · cases h
/-! ### append, insert, pop -/
def appV : List V → St → Option (Rs V)
  | [.ref k, v], σ => match σ[k]? with
    | some (.list vs) => if vs.length < 16777216 then some (.ok .none (σ.set k (.list (vs ++ [v])))) else none
    | _ => none
  | _, _ => none
theorem bc_append : BC C f n (.builtin "list.append") appV := by
  intro vs σ r h A mF aux led vals a rv s Q E M P
  unfold appV at h
  split at h <;> first | (cases h; done) | skip
  rename_i k v
  split at h <;> first | (cases h; done) | skip
  rename_i us e
  split at h <;> first | (cases h; done) | skip
  rename_i hz
  cases h
  obtain ⟨val, vals', rfl, rv1, rv2⟩ := rv.cons_inv
  obtain ⟨val2, vals'', rfl, rv3, rv4⟩ := rv2.cons_inv
  obtain rfl := rv4.nil_inv
  obtain ⟨x, its, m, rfl, h1, h2, h3, h4⟩ := list_at M e rv1
  have z := size_of h2 h3
  have g := M.get h1
  obtain ⟨led', M', ek⟩ := M.putList (vs' := us ++ [v]) (its' := its ++ [val2]) (g := fun x => x.push val2) h1 (by simp) (h2.append ⟨rv3, trivial⟩) (by rw [sizeLine_is]; simp; omega)
  refine call_meets PySem.F.slot_list_append ⟨_, g, rfl⟩ PySem.F.entry_list_append (PySem.F.args_list_append_2 _ _) (PySem.AutoListH.list_append_list_val_0 _ _ _ _ (by rw [sizeLine_is]; simpa using z)) ⟨g, ?_⟩
  exact P led' _ _ _ (by rw [ek]; exact List.prefix_refl _) M' trivial
def insV : List V → St → Option (Rs V)
  | [.ref k, .int i, v], σ => match σ[k]? with
    | some (.list vs) => if 0 ≤ i ∧ i ≤ vs.length ∧ vs.length < 16777216 then some (.ok .none (σ.set k (.list (vs.take i.toNat ++ v :: vs.drop i.toNat)))) else none
    | _ => none
  | _, _ => none
theorem fits_index {i : Int} (h0 : -16777217 ≤ i) (h1 : i ≤ 16777217) : Builtin.List.listFitsIndex i = true := by
  unfold Builtin.List.listFitsIndex
  simp
  omega
theorem bc_insert : BC C f n (.builtin "list.insert") insV := by
  intro vs σ r h A mF aux led vals a rv s Q E M P
  unfold insV at h
  split at h <;> first | (cases h; done) | skip
  rename_i k i v
  split at h <;> first | (cases h; done) | skip
  rename_i us e
  split at h <;> first | (cases h; done) | skip
  rename_i hz
  obtain ⟨hz0, hz1, hz2⟩ := hz
  cases h
  obtain ⟨val, vals', rfl, rv1, rv2⟩ := rv.cons_inv
  obtain ⟨val2, vals'', rfl, rv3, rv4⟩ := rv2.cons_inv
  obtain ⟨val3, vals3, rfl, rv5, rv6⟩ := rv4.cons_inv
  obtain rfl := rv6.nil_inv
  obtain ⟨t, rfl⟩ := rv3.int_inv
  obtain ⟨x, its, m, rfl, h1, h2, h3, h4⟩ := list_at M e rv1
  have z := size_of h2 h3
  have ln := h2.length
  have g := M.get h1
  obtain ⟨led', M', ek⟩ := M.putList (vs' := us.take i.toNat ++ v :: us.drop i.toNat) (its' := its.take i.toNat ++ val3 :: its.drop i.toNat)
    (g := fun xs => have k := if i < 0 then (i + (xs.size : Int)).toNat else min i.toNat xs.size; (xs.extract 0 k).push val3 ++ xs.extract k) h1
    (by
      have : min i.toNat its.length = i.toNat := by omega
      dsimp only
      rw [if_neg (by omega), List.size_toArray, this]
      exact kl_ins_eq its i.toNat val3) ((h2.take _).append ⟨rv5, h2.drop _⟩) (by rw [sizeLine_is]; simp; omega)
  refine call_meets PySem.F.slot_list_insert ⟨_, g, rfl⟩ PySem.F.entry_list_insert (PySem.F.args_list_insert_3 _ _ _) (PySem.AutoSeq1.list_insert_list_int_val_1 _ _ _ _ _ _ (by simp [fits_index (i := i) (by omega) (by omega)]) (by rw [sizeLine_is]; simpa using z)) ⟨g, ?_⟩
  exact P led' _ _ _ (by rw [ek]; exact List.prefix_refl _) M' trivial
def popV : List V → St → Option (Rs V)
  | [.ref k, .int i], σ => match σ[k]? with
    | some (.list vs) => (idx vs.length i).bind fun j => vs[j]?.map fun v => .ok v (σ.set k (.list (vs.eraseIdx j)))
    | _ => none
  | _, _ => none
theorem bc_pop : BC C f n (.builtin "list.pop") popV := by
  intro vs σ r h A mF aux led vals a rv s Q E M P
  unfold popV at h
  split at h <;> first | (cases h; done) | skip
  rename_i k i
  split at h <;> first | (cases h; done) | skip
  rename_i us e
  obtain ⟨j, hj, h⟩ := Option.bind_eq_some_iff.mp h
  obtain ⟨v, hv, rfl⟩ := Option.map_eq_some_iff.mp h
  obtain ⟨val, vals', rfl, rv1, rv2⟩ := rv.cons_inv
  obtain ⟨val2, vals'', rfl, rv3, rv4⟩ := rv2.cons_inv
  obtain rfl := rv4.nil_inv
  obtain ⟨t, rfl⟩ := rv3.int_inv
  obtain ⟨x, its, m, rfl, h1, h2, h3, h4⟩ := list_at M e rv1
  have z := size_of h2 h3
  have ln := h2.length
  have g := M.get h1
  obtain ⟨val3, g1, g2⟩ := h2.get hv
  have hc := idx_case hj
  have el := List.length_eraseIdx_le us j
  have jl := (List.getElem?_eq_some_iff.mp g1).1
  obtain ⟨led', M', ek⟩ := M.putList (vs' := us.eraseIdx j) (its' := its.eraseIdx j) (g := fun xs => xs.eraseIdxIfInBounds j) h1 (by simp) (h2.eraseIdx j) (by omega)
  refine call_meets PySem.F.slot_list_pop ⟨_, g, rfl⟩ PySem.F.entry_list_pop (PySem.F.args_list_pop_2 _ _) (PySem.MeetsSeq.list_pop_at _ _ _ _ _ j val3 (fits_index (by omega) (by omega)) (by rw [List.size_toArray, ← ln]; exact idx_seq hj) (by simpa using g1) (by rw [sizeLine_is]; simpa using z)) ⟨g, ?_⟩
  exact P led' _ _ _ (by rw [ek]; exact List.prefix_refl _) M' (by rw [ek]; exact g2)
/-! ### count, index -/
def countV : List V → St → Option (Rs V)
  | [.ref k, .int i], σ => match σ[k]? with
    | some (.list vs) => (intsV vs).map fun is => .ok (.int (is.count i : Nat)) σ
    | _ => none
  | _, _ => none
theorem bc_count : BC C f n (.builtin "list.count") countV := by
  intro vs σ r h A mF aux led vals a rv s Q E M P
  unfold countV at h
  split at h <;> first | (cases h; done) | skip
  rename_i k i
  split at h <;> first | (cases h; done) | skip
  rename_i us e
  obtain ⟨is, hi, rfl⟩ := Option.map_eq_some_iff.mp h
  obtain ⟨val, vals', rfl, rv1, rv2⟩ := rv.cons_inv
  obtain ⟨val2, vals'', rfl, rv3, rv4⟩ := rv2.cons_inv
  obtain rfl := rv4.nil_inv
  obtain ⟨t, rfl⟩ := rv3.int_inv
  obtain ⟨x, its, m, rfl, h1, h2, h3, h4⟩ := list_at M e rv1
  exact count_list_ints h4 (intsV_are hi h2) (P led s.heap _ _ (List.prefix_refl _) M rfl)
def indexV : List V → St → Option (Rs V)
  | [.ref k, .int i], σ => match σ[k]? with
    | some (.list vs) => (intsV vs).bind fun is => if PyData.layable0 (.list (is.map .int)) = true ∧ i ∈ is then some (.ok (.int (is.idxOf i : Nat)) σ) else none
    | _ => none
  | _, _ => none
theorem bc_index : BC C f n (.builtin "list.index") indexV := by
  intro vs σ r h A mF aux led vals a rv s Q E M P
  unfold indexV at h
  split at h <;> first | (cases h; done) | skip
  rename_i k i
  split at h <;> first | (cases h; done) | skip
  rename_i us e
  obtain ⟨is, hi, h⟩ := Option.bind_eq_some_iff.mp h
  split at h <;> first | (cases h; done) | skip
  rename_i hh
  cases h
  obtain ⟨val, vals', rfl, rv1, rv2⟩ := rv.cons_inv
  obtain ⟨val2, vals'', rfl, rv3, rv4⟩ := rv2.cons_inv
  obtain rfl := rv4.nil_inv
  obtain ⟨t, rfl⟩ := rv3.int_inv
  obtain ⟨x, its, m, rfl, h1, h2, h3, h4⟩ := list_at M e rv1
  exact index_list_ints h4 (intsV_are hi h2) hh.1 hh.2 (P led s.heap _ _ (List.prefix_refl _) M rfl)
end
end Mine

end
section
open PySem PySem.W PyProof.Rows PySem.Calls PySem.Spec PyProof.V PySem.SeqAt
set_option linter.unusedSimpArgs false
set_option linter.unusedVariables false
set_option autoImplicit false
set_option Elab.async false
namespace Mine
/-! ## writes at places, dicts -/
def storedV (kvs : List (Int × V)) (i : Int) (v : V) : List (Int × V) := if kvs.any (fun p => decide (p.1 = i)) then kvs.map (fun p => if p.1 = i then (p.1, v) else p) else kvs ++ [(i, v)]
def storedEp (kvs : List (Int × V)) (i : Int) (ep : Option Nat) : Option Nat := if kvs.any (fun p => decide (p.1 = i)) then ep else ep.map (· + 1)
def setV (a i v : V) (σ : St) : Option (Rs Unit) := match a, i with
  | .ref k, .int i => match σ[k]? with
    | some (.list vs) => (idx vs.length i).map fun j => .ok () (σ.set k (.list (vs.set j v)))
    | some (.dict kvs ep) => if kvs.length < 16777216 then some (.ok () (σ.set k (.dict (storedV kvs i v) (storedEp kvs i ep)))) else none
    | _ => none
  | _, _ => none
section
variable {C : Ctx} {f : Fm} {n : Nat}
theorem anyKey_is {ρ : List Addr} {i : Int} : ∀ {kvs : List (Int × V)} {kv : List (Int × Value)}, All2 (KvR ρ) kvs kv → (kv.any fun p => decide (p.1 = i)) = kvs.any fun p => decide (p.1 = i)
  | [], [], _ => rfl
  | [], _ :: _, h => h.elim
  | _ :: _, [], h => h.elim
  | (a, x) :: kvs, (b, y) :: kv, h => by
    have ih := anyKey_is (i := i) h.2
    have hab : a = b := h.1.1
    subst hab
    rw [List.any_cons, List.any_cons, ih]
theorem stored_is {ρ : List Addr} {i : Int} {v : V} {val : Value} (r : VR ρ v val) {kvs : List (Int × V)} {kv : List (Int × Value)} (h : All2 (KvR ρ) kvs kv) : All2 (KvR ρ) (storedV kvs i v) (stored kv i val) := by
  unfold storedV stored
  rw [anyKey_is h]
  split
  · have : ∀ {kvs : List (Int × V)} {kv : List (Int × Value)}, All2 (KvR ρ) kvs kv → All2 (KvR ρ) (kvs.map (fun p => if p.1 = i then (p.1, v) else p)) (kv.map fun p => if p.1 = i then (p.1, val) else p) := by
      intro kvs
      induction kvs with
      | nil => intro kv h; rw [h.nil_inv]; trivial
      | cons p kvs ih =>
        intro kv h
        obtain ⟨q, kv', rfl, h1, h2⟩ := h.cons_inv
        rw [List.map_cons, List.map_cons]
        refine ⟨?_, ih h2⟩
        obtain ⟨a, x⟩ := p
        obtain ⟨b, y⟩ := q
        have hab : a = b := h1.1
        subst hab
        by_cases e : a = i
        · rw [if_pos e, if_pos e]; exact ⟨rfl, r⟩
        · rw [if_neg e, if_neg e]; exact h1
    exact this h
  · exact h.append ⟨⟨rfl, r⟩, trivial⟩
theorem storedV_len (kvs : List (Int × V)) (i : Int) (v : V) : (storedV kvs i v).length ≤ kvs.length + 1 := by
  unfold storedV
  split <;> simp
/-- a dict's item, its count of changes told -/
theorem setItem_dict {d : Addr} {i : Int} {t : Tok} {val : Value} {kv : List (Int × Value)} {o : Obj} {A : Around} {s : Shared} {Q : Unit → Shared → Prop} {E : Value → Shared → Prop} (ho : s.heap.get? d = some o) (hd : o.IsDictOf (intKind C.prog C.w) kv) (hz : kv.length ≤ sizeLine)
    (h : ∀ h' o', o'.IsDictOf (intKind C.prog C.w) (stored kv i val) → (∀ es ep, o.data = .dict es ep → ∃ es', o'.data = .dict es' (if kv.any (fun p => decide (p.1 = i)) then ep else ep + 1)) → h'.get? d = some o' → Heap.SameBut d s.heap h' → Q () { s with heap := h', toks := s.toks + 1 }) :
    wpAny (model C.prog C.w) A (setItem (.ref d) (.int i t) val) Q E s := by
  have hm : s.heap.DictOf (intKind C.prog C.w) d kv := PySem.Heap.dictOf_iff.mpr ⟨o, ho, hd⟩
  have hkey : (intKind C.prog C.w).is i (.int i t) = true := by simp [intKind, Value.isInt]
  unfold setItem
  try with_reducible refine wpAny_holding ?_
  refine wpAny_bind (wpAny_sequenceKey hm.typeIs (by decide) ?_)
  refine wpAny_bind (wpAny_callSpecial?_slot (name := Str.ofString "__setitem__") hm.typeIs slot_dict_setitem
    (wpAny_call_entry slot_dict_setitem hm.typeIs entry_dict_setitem ?_ (args_dict_setitem _ _ _)))
  show wpAny _ _ (Builtin.Dict.notOrdered "__setitem__" ⟨[.ref d, .int i t, val], []⟩ >>= _) _ _ s
  refine wpAny_bind (wpAny_notOrdered_dict hm.typeIs ?_)
  show wpAny _ _ (dictSet d (.int i t) val >>= _) _ _ s
  refine wpAny_bind ?_
  obtain ⟨es, ep, hc, hdat, hk, hp, hn⟩ := hd
  have hes : es.size ≤ sizeLine := by
    have e1 := hp.length
    have e2 : es.toList.length = es.size := by simp
    omega
  unfold dictSet
  try with_reducible refine wpAny_holding ?_
  refine wpAny_bind ((intKind C.prog C.w).pyHash hkey ?_)
  unfold dictSetHashed
  try with_reducible refine wpAny_holding ?_
  refine wpAny_bind (wpAny_dictFind_of (s := { s with toks := s.toks + 1 }) hkey ho hdat hk ?_)
  have hidx : (es.findIdx? fun e => (intKind C.prog C.w).is i e.key) = kv.findIdx? fun p => decide (p.1 = i) := by
    rw [← hp.findIdx i]; obtain ⟨l⟩ := es; simp
  cases hi : es.findIdx? fun e => (intKind C.prog C.w).is i e.key with
  | some j =>
    have ha : (kv.any fun p => decide (p.1 = i)) = true := any_of_findIdx_some (hidx ▸ hi)
    refine wpAny_bind (wpAny_rule (wpAny_bind (wpAny_updateDict (s := { s with toks := s.toks + 1 }) ho hdat (wpAny_point (wpAny_pure ⟨.none, rfl, wpAny_pure (h _ _ ⟨_, ep, hc.mapDict _, Obj.data_mapDict hdat _, hk.modify _ _, ?_, ?_⟩ ?_
      (Heap.get?_update_self _ ho (Obj.isFreed_of_dict (Obj.data_mapDict hdat _))) (Heap.SameBut.update ..))⟩)))))
    · rw [stored, if_pos ha]
      have hl : (es.toList.findIdx? fun e => (intKind C.prog C.w).is i e.key) = some j := by rw [← hi]; obtain ⟨l⟩ := es; simp
      have := hp.modify hn hl val
      obtain ⟨l⟩ := es
      simpa using this
    · rw [stored, if_pos ha, keys_map_store]; exact hn
    · intro es' ep' e
      rw [hdat] at e; cases e
      rw [if_pos ha]
      exact ⟨_, Obj.data_mapDict hdat _⟩
  | none =>
    have hnot : i ∉ kv.map (·.1) := not_mem_of_findIdx_none (hidx ▸ hi)
    have hany : ¬ (kv.any fun p => decide (p.1 = i)) = true := by
      rw [List.any_eq_true]; rintro ⟨p, hpm, he⟩
      exact hnot (List.mem_map.mpr ⟨p, hpm, of_decide_eq_true he⟩)
    refine wpAny_bind (wpAny_rule (wpAny_updateDictKeys (hz := hes) (s := { s with toks := s.toks + 1 }) ho hdat (wpAny_pure ⟨.none, rfl, wpAny_pure (h _ _ ⟨_, ep + 1, hc.mapDictKeys _, Obj.data_mapDictKeys hdat _, hk.push hkey _, ?_, ?_⟩ ?_
      (Heap.get?_update_self _ ho (Obj.isFreed_of_dict (Obj.data_mapDictKeys hdat _))) (Heap.SameBut.update ..))⟩)))
    · rw [stored, if_neg hany]
      have := hp.append hkey ((intKind C.prog C.w).hash i) val
      obtain ⟨l⟩ := es
      simpa using this
    · rw [stored, if_neg hany, List.map_append, List.nodup_append]
      refine ⟨hn, by simp, ?_⟩
      intro a ha b hb
      simp only [List.map_cons, List.map_nil, List.mem_singleton] at hb
      subst hb
      exact fun e => hnot (e ▸ ha)
    · intro es' ep' e
      rw [hdat] at e; cases e
      rw [if_neg hany]
      exact ⟨_, Obj.data_mapDictKeys hdat _⟩
theorem set_ok (ok : FmOk C f) {a i v : V} {σ : St} {r : Rs Unit} (h : setV a i v σ = some r) {A : Around} {mF : Str → Option Value} {aux led : Led} {va vi vv : Value} (aok : AOk f n A) (ra : VR (ats led) a va) (ri : VR (ats led) i vi) (rv : VR (ats led) v vv) : Does C f (fun _ _ _ => True) A mF aux led σ (setItem va vi vv) r := by
  unfold setV at h
  split at h <;> first | (cases h; done) | skip
  rename_i k i
  obtain ⟨t, rfl⟩ := ri.int_inv
  split at h <;> first | (cases h; done) | skip
  · rename_i us e
    obtain ⟨j, hj, rfl⟩ := Option.map_eq_some_iff.mp h
    intro s Q E M P
    obtain ⟨x, its, m, rfl, h1, h2, h3, h4⟩ := list_at M e ra
    have z := size_of h2 h3
    have ln := h2.length
    have hr : All2 (VR (ats led)) (us.set j v) (its.set j vv) := h2.set j rv
    have g := M.get h1
    obtain ⟨led', M', ek⟩ := M.putList (vs' := us.set j v) (its' := its.set j vv) (g := fun xs => xs.setIfInBounds j vv) h1 (by simp) hr (by rw [List.length_set]; exact h3)
    have go : Q () { s with heap := s.heap.update x (Obj.mapSeq fun xs => xs.setIfInBounds j vv) } := P led' _ s.toks _ (by rw [ek]; exact List.prefix_refl _) M' trivial
    rcases idx_case hj with ⟨h0, h1', rfl⟩ | ⟨h0, h1', rfl⟩
    · exact ki_setAt g h0 (by omega) (by rw [List.size_toArray]; omega) go
    · exact ki_setBack g h0 (by rw [List.size_toArray]; omega) (by omega) (by rw [List.size_toArray, ← ln]; exact go)
  · rename_i kvs ep e
    split at h <;> first | (cases h; done) | skip
    rename_i hz
    cases h
    intro s Q E M P
    obtain ⟨x, ob, rfl, h1, kv, h2, h3, h4, h5⟩ := M.deref e ra
    refine setItem_dict (M.get h1) h2 (by rw [← h3.length]; exact h4) fun h' o' hd' hep ho' hs => ?_
    have sl := storedV_len kvs i v
    have hep' : ∀ e', storedEp kvs i ep = some e' → ∃ es, o'.data = .dict es e' := by
      intro e' he'
      unfold storedEp at he'
      rw [anyKey_is h3] at hep
      split at he'
      · rename_i ha
        obtain ⟨es, hes⟩ := h5 e' he'
        obtain ⟨es', q⟩ := hep _ _ hes
        rw [if_pos ha] at q
        exact ⟨es', q⟩
      · rename_i ha
        obtain ⟨e0, he0, rfl⟩ := Option.map_eq_some_iff.mp he'
        obtain ⟨es, hes⟩ := h5 e0 he0
        obtain ⟨es', q⟩ := hep _ _ hes
        rw [if_neg ha] at q
        exact ⟨es', q⟩
    obtain ⟨M', ek⟩ := M.put (o' := .dict (storedV kvs i v) (storedEp kvs i ep)) h1 hs ho' ⟨_, hd', stored_is rv h3, by rw [sizeLine_is]; omega, hep'⟩
    exact P _ h' _ _ (by rw [ek]; exact List.prefix_refl _) M' trivial
end
end Mine

end
section
open PySem PySem.W PyProof.Rows PySem.Calls PySem.Spec PyProof.V PySem.SeqAt
set_option linter.unusedSimpArgs false
set_option linter.unusedVariables false
set_option autoImplicit false
set_option Elab.async false
namespace Mine
/-! ## assignments to places, in place -/
def asgA (T : Tab) (i : Nat) (o e : EF) : SF := fun le σ => bindE le.lo (e le σ) fun v σ1 => bindE le.lo (o le σ1) fun a σ2 => bindE le.lo (setAttrV T i a v σ2) fun _ σ3 => some (.ok .next le.lo σ3)
def asgP (T : Tab) (call : CallF) (o e : EF) : SF := fun le σ => bindE le.lo (e le σ) fun v σ1 => bindE le.lo (o le σ1) fun a σ2 => bindE le.lo (setPropV T call a v σ2) fun _ σ3 => some (.ok .next le.lo σ3)
def asgI (o i e : EF) : SF := fun le σ => bindE le.lo (e le σ) fun v σ1 => bindE le.lo (o le σ1) fun a σ2 => bindE le.lo (i le σ2) fun k σ3 => bindE le.lo (setV a k v σ3) fun _ σ4 => some (.ok .next le.lo σ4)
def inpV (o : BOp) (a b : V) (σ : St) : Option (Rs V) := match o, a, b with
  | .add, .int i, .int j => some (.ok (.int (i + j)) σ)
  | .sub, .int i, .int j => some (.ok (.int (i - j)) σ)
  | .add, .ref i, .ref j => match σ[i]?, σ[j]? with
    | some (.list us), some (.list vs) => if us.length + vs.length ≤ 16777216 then some (.ok (.ref i) (σ.set i (.list (us ++ vs)))) else none
    | _, _ => none
  | _, _, _ => none
def augL (o : BOp) (i : Nat) (e : EF) : SF := fun le σ => (le.lo[i]?).join.bind fun a => bindE le.lo (e le σ) fun b σ1 => bindE le.lo (inpV o a b σ1) fun v σ2 => some (.ok .next (setLo i v le.lo) σ2)
def augC (o : BOp) (j : Nat) (e : EF) : SF := fun le σ => match (le.cl[j]?).bind fun k => σ[k]? with
  | some (.cell (some a)) => bindE le.lo (e le σ) fun b σ1 => bindE le.lo (inpV o a b σ1) fun v σ2 => (cellAtV le.cl j v σ2).map fun σ3 => .ok .next le.lo σ3
  | _ => none
def augI (T : Tab) (op : BOp) (o i e : EF) : SF := fun le σ => bindE le.lo (o le σ) fun a σ1 => bindE le.lo (i le σ1) fun k σ2 => bindE le.lo (getV T a k σ2) fun x σ3 => bindE le.lo (e le σ3) fun b σ4 => bindE le.lo (inpV op x b σ4) fun v σ5 => bindE le.lo (setV a k v σ5) fun _ σ6 => some (.ok .next le.lo σ6)
section
variable {C : Ctx} {f : Fm} {n : Nat}
/-- a primitive's step within a statement -/
theorem stepD {α β : Type} {R : List Addr → α → β → Prop} {t1 : Sem β} {le : Le} {σ : St} {s : Shared} {m : Option (Rs α)} {k : α → St → Option Rt} {r : Rt} {mm : Str → Option Value} {aux led : Led} {A : Around} {Q : Flow → Shared → Prop} {E : Value → Shared → Prop} {Q1 : β → Shared → Prop}
    (h : bindE le.lo m k = some r) (h1 : ∀ r1, m = some r1 → Does C f R A mm aux led σ t1 r1) (l : LeR f (ats led) mm le) (M : MemC C f mm aux led σ s.heap) (P : PostS C f le.cl aux led s Q E r)
    (hk : ∀ x σ1 led1 h1 tk1 b, k x σ1 = some r → ats led <+: ats led1 → MemC C f mm aux led1 σ1 h1 → R (ats led1) x b → LeR f (ats led1) mm le → PostS C f le.cl aux led1 { s with heap := h1, toks := tk1 } Q E r → Q1 b { s with heap := h1, toks := tk1 }) :
    wpAny (model C.prog C.w) A t1 Q1 E s := by
  cases m with
  | none => cases h
  | some r1 =>
    refine h1 r1 rfl s Q1 E M ?_
    cases r1 with
    | ok x σ1 => exact fun led1 h1 tk1 b p M1 R1 => hk x σ1 led1 h1 tk1 b h p M1 R1 (l.mono p) (P.step p)
    | exc x σ1 =>
      cases h
      exact fun led' h' tk e p R1 => P mm led' h' tk e p (l.mono p) R1
theorem ss_asgA {T : Tab} (ok : FmOk C f) (tk : TabOk C T) {i : Nat} {o e : Expr} {p pos : Pos} {eo ev : EF} (he : SE C f n e ev) (ho : SE C f n o eo) (hs : swapsWith e (some (.Attribute o (nm i) p)) pos.line f.env = pure false) :
    SS C f n (.Assign [.Attribute o (nm i) p] e pos) (asgA T i eo ev) := by
  refine ⟨?_⟩
  intro le σ r h m aux led A a hl l s Q E M P
  refine plainObj_wpAny_Assign_Attribute (stepE h (fun r1 q => he.p le σ r1 q) a hl l M P fun x σ1 led1 hp1 tk1 b hk p1 M1 R1 l1 P1 => ?_) hs
  refine stepE hk (fun r1 q => ho.p le σ1 r1 q) a hl l1 M1 P1 fun y σ2 led2 hp2 tk2 b2 hk p2 M2 R2 l2 P2 => ?_
  refine stepD hk (fun r1 q => setAttr_ok ok tk i y x σ2 r1 q A m aux led2 b2 b a R2 (R1.mono p2)) l2 M2 P2 fun z σ3 led3 hp3 tk3 b3 hk p3 M3 R3 l3 P3 => ?_
  cases hk
  exact P3.here M3 l3 (by trivial)
theorem ss_asgP {T : Tab} {call : CallF} (ok : FmOk C f) (tk : TabOk C T) (hc : CallOk C T call n) {o e : Expr} {p pos : Pos} {eo ev : EF} (he : SE C f (n + 1) e ev) (ho : SE C f (n + 1) o eo) (hs : swapsWith e (some (.Attribute o "weight" p)) pos.line f.env = pure false) :
    SS C f (n + 1) (.Assign [.Attribute o "weight" p] e pos) (asgP T call eo ev) := by
  refine ⟨?_⟩
  intro le σ r h m aux led A a hl l s Q E M P
  refine plainObj_wpAny_Assign_Attribute (stepE h (fun r1 q => he.p le σ r1 q) a hl l M P fun x σ1 led1 hp1 tk1 b hk p1 M1 R1 l1 P1 => ?_) hs
  refine stepE hk (fun r1 q => ho.p le σ1 r1 q) a hl l1 M1 P1 fun y σ2 led2 hp2 tk2 b2 hk p2 M2 R2 l2 P2 => ?_
  refine stepD hk (fun r1 q => setProp_ok ok tk hc y x σ2 r1 q A m aux led2 b2 b a R2 (R1.mono p2)) l2 M2 P2 fun z σ3 led3 hp3 tk3 b3 hk p3 M3 R3 l3 P3 => ?_
  cases hk
  exact P3.here M3 l3 (by trivial)
theorem ss_asgI (ok : FmOk C f) {o i e : Expr} {p pos : Pos} {eo ei ev : EF} (he : SE C f n e ev) (ho : SE C f n o eo) (hi : SE C f n i ei) (hs : swapsWith e (some (.Subscript o i p)) pos.line f.env = pure false) :
    SS C f n (.Assign [.Subscript o i p] e pos) (asgI eo ei ev) := by
  refine ⟨?_⟩
  intro le σ r h m aux led A a hl l s Q E M P
  refine wpAny_Assign_Subscript (stepE h (fun r1 q => he.p le σ r1 q) a hl l M P fun x σ1 led1 hp1 tk1 b hk p1 M1 R1 l1 P1 => ?_) hs
  refine stepE hk (fun r1 q => ho.p le σ1 r1 q) a hl l1 M1 P1 fun y σ2 led2 hp2 tk2 b2 hk p2 M2 R2 l2 P2 => ?_
  refine stepE hk (fun r1 q => hi.p le σ2 r1 q) a hl l2 M2 P2 fun z σ3 led3 hp3 tk3 b3 hk p3 M3 R3 l3 P3 => ?_
  refine stepD hk (fun r1 q => set_ok ok q a (R2.mono p3) R3 (R1.mono (p2.trans p3))) l3 M3 P3 fun z σ4 led4 hp4 tk4 b4 hk p4 M4 R4 l4 P4 => ?_
  cases hk
  exact P4.here M4 l4 (by trivial)
/-! ### in place -/
theorem no_seq_iadd : fillsInplaceSlot (.type "list") "add" (Operator.Add == .Add) = pure false := by
  unfold fillsInplaceSlot
  show (typeLookup (.type "list") (dunderI "add") >>= fun fi => pure (fi.isSome && !isSeqSlot fi)) = pure false
  rw [PySem.F.slot_list_iadd.lookup]
  have e : isSeqSlot (some (.builtin "list.__iadd__")) = true := by decide +kernel
  show (pure ((some (Value.builtin "list.__iadd__")).isSome && !isSeqSlot (some (.builtin "list.__iadd__"))) : Sem Bool) = pure false
  rw [e]; rfl
theorem seq_list_iadd : seqSlot? (.type "list") (dunderI "add") = pure (some (.builtin "list.__iadd__")) := PySem.seqSlot_of PySem.F.slot_list_iadd.lookup (by decide +kernel)
theorem iadd_lists {l b : Addr} {items items2 : Array Value} {k k2 : Nat} {A : Around} {s : Shared} {Q : Value → Shared → Prop} {E : Value → Shared → Prop} (hl : s.heap.get? l = some (listOf items k)) (hb : s.heap.get? b = some (listOf items2 k2)) (hz : items.size + items2.size ≤ sizeLine)
    (h : Q (.ref l) { s with heap := s.heap.update l (Obj.mapSeq fun x => x ++ items2) }) : wpAny (model C.prog C.w) A (inplaceOp .Add (.ref l) (.ref b)) Q E s := by
  have ha : s.TypeIs (.ref l) "list" := ⟨_, hl, rfl⟩
  have hb' : s.TypeIs (.ref b) "list" := ⟨_, hb, rfl⟩
  unfold inplaceOp
  refine wpAny_holding ?_
  refine wpAny_bind (wpAny_typeOf ha (wpAny_bind (wpAny_of_eq no_seq_iadd ?_)))
  show wpAny _ A (if false = true then _ else _) Q E s
  rw [if_neg Bool.false_ne_true]
  refine wpAny_bind (wpAny_binaryOp1_none (nm := "add") ha hb' PySem.noFill_list_add ?_)
  refine wpAny_bind (wpAny_of_eq seq_list_iadd ?_)
  refine wpAny_bind (wpAny_rule ?_)
  refine call_meets PySem.F.slot_list_iadd ha PySem.F.entry_list_iadd (PySem.F.args_list_iadd_2 _ _) (PySem.AutoSeq1.list___iadd___list_list_0 l items k b items2 k2 ?_ (by omega) (by omega)) ⟨hl, hb, h⟩
  unfold Builtin.List.listTooLong
  have hz2 := hz
  rw [sizeLine_is] at hz2
  simp
  intro _
  omega
theorem inp_ok (ok : FmOk C f) {o : BOp} {a b : V} {σ : St} {r : Rs V} (h : inpV o a b σ = some r) {A : Around} {mF : Str → Option Value} {aux led : Led} {va vb : Value} (aok : AOk f n A) (ra : VR (ats led) a va) (rb : VR (ats led) b vb) : Does C f VR A mF aux led σ (inplaceOp o.py va vb) r := by
  intro s Q E M P
  unfold inpV at h
  split at h <;> first | (cases h; done) | skip
  · obtain ⟨t, rfl⟩ := ra.int_inv; obtain ⟨u, rfl⟩ := rb.int_inv; cases h
    exact wpAny_iadd_int (P led s.heap _ _ (List.prefix_refl _) M rfl)
  · obtain ⟨t, rfl⟩ := ra.int_inv; obtain ⟨u, rfl⟩ := rb.int_inv; cases h
    exact PyProof.Rows.isub_int (P led s.heap _ _ (List.prefix_refl _) M rfl)
  · rename_i i j
    split at h <;> first | (cases h; done) | skip
    rename_i us vs e1 e2
    split at h <;> first | (cases h; done) | skip
    rename_i hz
    cases h
    obtain ⟨x, its, m, rfl, h1, h2, h3, h4⟩ := list_at M e1 ra
    obtain ⟨y, jts, m', rfl, k1, k2, k3, k4⟩ := list_at M e2 rb
    have l1 := h2.length
    have l2 := k2.length
    obtain ⟨led', M', ek⟩ := M.putList (vs' := us ++ vs) (its' := its ++ jts) (g := fun x => x ++ jts.toArray) h1 (by simp) (h2.append k2) (by rw [sizeLine_is]; simp; omega)
    refine iadd_lists (M.get h1) (M.get k1) (by rw [sizeLine_is]; simp; omega) ?_
    exact P led' _ _ _ (by rw [ek]; exact List.prefix_refl _) M' (by rw [ek]; exact ra)
theorem load_local (ok : FmOk C f) {x : Str} {i : Nat} (hx : f.xs[i]? = some x) {v : V} {le : Le} (hv : (le.lo[i]?).join = some v) {m mF : Str → Option Value} {aux led : Led} {σ : St} {s : Shared} {A : Around} {E : Value → Shared → Prop} {Q : Value → Shared → Prop} (lc : LocAt f mF aux m) (l : LeR f (ats led) m le) (M : MemC C f mF aux led σ s.heap)
    (h : ∀ val, VR (ats led) v val → Q val s) : wpAny (model C.prog C.w) A (loadName f.env x) Q E s := by
  obtain ⟨ov, ho, hr⟩ := l.lo.get hx
  rw [ho] at hv
  obtain rfl : ov = some v := hv
  have hm := mem_of_get hx
  cases hmx : m x with
  | none => rw [hmx] at hr; exact hr.elim
  | some w => rw [hmx] at hr; exact wpAny_loadName_local ok.ekind (ok.xl x hm) (lc.ns M) hmx (h w hr)
theorem load_cell (ok : FmOk C f) {x : Str} {j k : Nat} (hx : f.cs[j]? = some x) {v : V} {le : Le} (hk : le.cl[j]? = some k) {m mF : Str → Option Value} {aux led : Led} {σ : St} (hv : σ[k]? = some (.cell (some v))) {s : Shared} {A : Around} {E : Value → Shared → Prop} {Q : Value → Shared → Prop} (l : LeR f (ats led) m le) (M : MemC C f mF aux led σ s.heap)
    (h : ∀ val, VR (ats led) v val → Q val s) : wpAny (model C.prog C.w) A (loadName f.env x) Q E s := by
  obtain ⟨k', hk', c, hc, hr⟩ := l.cl.get hx
  rw [hk] at hk'; cases hk'
  have hm := mem_of_get hx
  obtain ⟨c', ob, hl, v', hd, hvr⟩ := M.at_ hv
  have := Mem.ats_of hl
  rw [hr] at this; cases this
  cases v' with
  | none => exact hvr.elim
  | some v' => exact wpAny_loadName_cell ok.ekind (ok.cl x hm) hc ⟨ob, M.get hl, hd⟩ (h v' hvr)
theorem ss_augL (ok : FmOk C f) {x : Str} {i : Nat} {p pos : Pos} {o : BOp} {e : Expr} {ev : EF} (hx : f.xs[i]? = some x) (he : SE C f n e ev) : SS C f n (.AugAssign (.Name x p) o.py e pos) (augL o i ev) := by
  refine ⟨?_⟩
  intro le σ r h m aux led A a hl l s Q E M P
  obtain ⟨va, hva, h⟩ := Option.bind_eq_some_iff.mp h
  refine wpAny_AugAssign_Name (load_local ok hx hva (.fn hl rfl) l M fun old ro => ?_)
  refine stepE h (fun r1 q => he.p le σ r1 q) a hl l M P fun y σ1 led1 hp1 tk1 b hk p1 M1 R1 l1 P1 => ?_
  refine stepD hk (fun r1 q => inp_ok ok q a (ro.mono p1) R1) l1 M1 P1 fun z σ2 led2 hp2 tk2 b2 hk p2 M2 R2 l2 P2 => ?_
  cases hk
  refine store_local ok hx hl l2 M2 R2 fun h' m' M3 l3 => ?_
  exact P2 m' led2 h' _ _ (List.prefix_refl _) M3 l3 (by trivial)
theorem ss_augC (ok : FmOk C f) {x : Str} {j : Nat} {p pos : Pos} {o : BOp} {e : Expr} {ev : EF} (hx : f.cs[j]? = some x) (he : SE C f n e ev) : SS C f n (.AugAssign (.Name x p) o.py e pos) (augC o j ev) := by
  refine ⟨?_⟩
  intro le σ r h m aux led A a hl l s Q E M P
  unfold augC at h
  split at h <;> first | (cases h; done) | skip
  rename_i va hva
  obtain ⟨k, hk, hv⟩ := Option.bind_eq_some_iff.mp hva
  refine wpAny_AugAssign_Name (load_cell ok hx hk hv l M fun old ro => ?_)
  refine stepE h (fun r1 q => he.p le σ r1 q) a hl l M P fun y σ1 led1 hp1 tk1 b hk p1 M1 R1 l1 P1 => ?_
  refine stepD hk (fun r1 q => inp_ok ok q a (ro.mono p1) R1) l1 M1 P1 fun z σ2 led2 hp2 tk2 b2 hk p2 M2 R2 l2 P2 => ?_
  obtain ⟨σ3, hc, rfl⟩ := Option.map_eq_some_iff.mp hk
  refine store_cell ok hx l2 M2 R2 hc fun h' led' ek M3 => ?_
  exact P2 m led' h' _ _ (by rw [ek]; exact List.prefix_refl _) M3 (by rw [ek]; exact l2) (by trivial)
end
end Mine

end
section
open PySem PySem.W PyProof.Rows PySem.Calls PySem.Spec PyProof.V PySem.SeqAt
set_option linter.unusedSimpArgs false
set_option linter.unusedVariables false
set_option autoImplicit false
set_option Elab.async false
namespace Mine
/-! ## calls of what is built in -/
def biE (bv : List V → St → Option (Rs V)) (es : EFs) : EF := fun le σ => bindR (es le σ) bv
def listAtV (a : V) (σ : St) : Bool := match a with
  | .ref k => match σ[k]? with
    | some (.list _) => true
    | _ => false
  | _ => false
def lmE (bv : List V → St → Option (Rs V)) (o : EF) (es : EFs) : EF := fun le σ => bindR (o le σ) fun a σ1 => if listAtV a σ1 then bindR (es le σ1) fun vs σ2 => bv (a :: vs) σ2 else none
def rangeV : List V → St → Option (Rs V)
  | [.int a], σ => some (.ok (.ref σ.length) (σ ++ [.rng 0 a]))
  | [.int a, .int b], σ => some (.ok (.ref σ.length) (σ ++ [.rng a b]))
  | _, _ => none
def listV (T : Tab) : List V → St → Option (Rs V)
  | [.ref k], σ => match σ[k]? with
    | some (.list vs) => some (.ok (.ref σ.length) (σ ++ [.list vs]))
    | some (.tup vs) => some (.ok (.ref σ.length) (σ ++ [.list vs]))
    | some (.rng a b) => if (small a && small b) ∧ (b - a).toNat ≤ 16777216 then some (.ok (.ref σ.length) (σ ++ [.list ((List.range (b - a).toNat).map fun (j : Nat) => V.int (a + j))])) else none
    | _ => none
  | [.glob g], σ => (T.tups g).map fun vs => .ok (.ref σ.length) (σ ++ [.list vs])
  | _, _ => none
def isiV (T : Tab) : List V → St → Option (Rs V)
  | [.int _, .ty t], σ => if t = "int" then some (.ok (.bool true) σ) else if t = "bool" then some (.ok (.bool false) σ) else none
  | [.ref k, .glob c], σ => match σ[k]? with
    | some (.inst c' _) => if c = c' ∧ T.isCls c = true then some (.ok (.bool true) σ) else none
    | _ => none
  | _, _ => none
section
variable {C : Ctx} {f : Fm} {n : Nat}
theorem se_bi (ok : FmOk C f) {x : Str} {id : String} {bv : List V → St → Option (Rs V)} {p pos : Pos} {e : Expr} {es : List Expr} {e2 : EFs}
    (hx : f.env.kindOf x = some .globalImplicit) (hd : (x == ("__debug__" : Str)) = false) (gv : GV C x (.builtin id)) (hb : BC C f n (.builtin id) bv)
    (h2 : SEs C f n pos (e :: es) e2) (he : starEach (e :: es) f.env = (false, eval e f.env) :: starEach es f.env) (hpl : (backTo pos (starEach es f.env)).any (·.1) = false) :
    SE C f n (.Call (.Name x p) (e :: es) [] pos) (biE bv e2) := by
  refine ⟨?_⟩
  intro le σ r h mF m aux led A a lc lr s Q E M P
  refine wpAny_Call_NameR ((se_glob (v := .bi id) ok hx hd gv rfl).p le σ _ rfl mF m aux led A a lc lr s _ E M ?_)
  intro led1 hp1 tk1 b p1 M1 R1
  obtain rfl := R1.bi_inv
  refine PyProof.Rows.callWith_builtin1 (compose h (fun r1 q => h2.p le σ r1 q mF m aux led1 A a lc (lr.mono p1)) M1 (P.step p1) fun y σ2 led2 hp2 tk2 b2 hk2 p2 M2 R2 P2 => ?_) he hpl
  exact hb y σ2 _ hk2 A mF aux led2 b2 a R2 _ _ _ M2 P2
theorem se_ty (ok : FmOk C f) {x : Str} {t : String} {bv : List V → St → Option (Rs V)} {p pos : Pos} {e : Expr} {es : List Expr} {e2 : EFs}
    (hx : f.env.kindOf x = some .globalImplicit) (hd : (x == ("__debug__" : Str)) = false) (gv : GV C x (.type t)) (hb : BC C f n (.type t) bv)
    (h2 : SEs C f n pos (e :: es) e2) (he : starEach (e :: es) f.env = (false, eval e f.env) :: starEach es f.env) (hpl : (backTo pos (starEach es f.env)).any (·.1) = false) :
    SE C f n (.Call (.Name x p) (e :: es) [] pos) (biE bv e2) := by
  refine ⟨?_⟩
  intro le σ r h mF m aux led A a lc lr s Q E M P
  refine wpAny_Call_NameR ((se_glob (v := .ty t) ok hx hd gv rfl).p le σ _ rfl mF m aux led A a lc lr s _ E M ?_)
  intro led1 hp1 tk1 b p1 M1 R1
  obtain rfl := R1.ty_inv
  refine PyProof.Rows.callWith_type1 (compose h (fun r1 q => h2.p le σ r1 q mF m aux led1 A a lc (lr.mono p1)) M1 (P.step p1) fun y σ2 led2 hp2 tk2 b2 hk2 p2 M2 R2 P2 => ?_) he hpl
  exact hb y σ2 _ hk2 A mF aux led2 b2 a R2 _ _ _ M2 P2
/-- a list's method -/
theorem se_lm {name : Str} {id : String} {bv : List V → St → Option (Rs V)} {o : Expr} {apos pos : Pos} {e : Expr} {es : List Expr} {e1 : EF} {e2 : EFs} {pl : Sem Bool} (slot : Slot "list" name id) (hty : typeOf (.builtin id) = pure (.type "method_descriptor")) (hb : BC C f n (.builtin id) bv)
    (h1 : SE C f n o e1) (h2 : SEs C f n pos (e :: es) e2) (he : starEach (e :: es) f.env = (false, eval e f.env) :: starEach es f.env) (hpl : (backTo pos (starEach es f.env)).any (·.1) = false)
    (hev : eval (.Call (.Attribute o name apos) (e :: es) [] pos) f.env = (do
      let ov ← eval o f.env
      standAt apos.atName
      let (g, first) ← holding [ov] (getMethod ov name pl)
      callWith pos g first (backTo pos (starEach (e :: es) f.env)) [])) :
    SE C f n (.Call (.Attribute o name apos) (e :: es) [] pos) (lmE bv e1 e2) := by
  refine ⟨?_⟩
  intro le σ r h mF m' aux led A a lc lr s Q E M P
  refine MethodCall_ (pl := pl) (compose h (fun r1 q => h1.p le σ r1 q mF m' aux led A a lc lr) M P fun x σ1 led1 hp1 tk1 b hk p1 M1 R1 P1 => ?_) hev
  split at hk <;> first | (cases hk; done) | skip
  rename_i hl
  unfold listAtV at hl
  split at hl <;> first | (cases hl; done) | skip
  rename_i k
  split at hl <;> first | (cases hl; done) | skip
  rename_i us eu
  obtain ⟨y, its, m2, rfl, g1, g2, g3, g4⟩ := list_at M1 eu R1
  have gg := M1.get g1
  refine getMethod_builtin ⟨_, gg, rfl⟩ PySem.F.plainAttrs_list slot hty (fun z e => by cases e; exact ⟨_, gg, rfl⟩) ?_
  refine PyProof.Rows.callWith_method1 (compose hk (fun r1 q => h2.p le σ1 r1 q mF m' aux led1 A a lc (lr.mono p1)) M1 P1 fun y2 σ2 led2 hp2 tk2 b2 hk2 p2 M2 R2 P2 => ?_) he hpl
  exact hb (.ref k :: y2) σ2 _ hk2 A mF aux led2 (.ref y :: b2) a ⟨R1.mono p2, R2⟩ _ _ _ M2 P2
/-! ### range, list, isinstance -/
/-- a new object at a place above all others -/
theorem new_at {mF : Str → Option Value} {aux led : Led} {σ : St} {h h' : Heap} {x : Addr} {ob : Obj} {o : O} (M : MemC C f mF aux led σ h) (F' : Fr f.h₀ f.L h' mF)
    (N' : News f.h₀ f.L h' ((x, ob) :: (led ++ aux))) (lt : ∀ p ∈ led ++ aux, p.1 < x) (r : ObjR C.prog C.w (ats led ++ [x]) o ob) :
    ∃ led', MemC C f mF aux led' (σ ++ [o]) h' ∧ ats led <+: ats led' ∧ VR (ats led') (.ref σ.length) (.ref x) := by
  have z := M.alloc F' N' lt r
  refine ⟨_, z.1, z.2, ?_⟩
  show (ats (led ++ [_]))[σ.length]? = _
  have e : ats (led ++ [(x, ob)]) = ats led ++ [x] := by show List.map _ _ = _; rw [List.map_append]; rfl
  have l : σ.length = (ats led).length := by rw [← M.rel.length]; show _ = (List.map _ _).length; rw [List.length_map]
  rw [e, l]; simp
theorem bc_range : BC C f n (.type "range") rangeV := by
  intro vs σ r h A mF aux led vals a rv s Q E M P
  unfold rangeV at h
  split at h <;> first | (cases h; done) | skip
  · cases h
    obtain ⟨v, vals', rfl, rv1, rv2⟩ := rv.cons_inv
    obtain rfl := rv2.nil_inv
    obtain ⟨t, rfl⟩ := rv1.int_inv
    refine call_range_1 ?_
    obtain ⟨led', M', p', v'⟩ := new_at (o := .rng 0 _) M (M.fr.push _) (News.push M.fr M.nw _ rfl) (fun p hp => Heap.lt_size (M.nw p hp).1) ⟨_, _, _, rfl⟩
    exact P led' _ _ _ p' M' v'
  · cases h
    obtain ⟨v, vals', rfl, rv1, rv2⟩ := rv.cons_inv
    obtain ⟨v2, vals'', rfl, rv3, rv4⟩ := rv2.cons_inv
    obtain rfl := rv4.nil_inv
    obtain ⟨t, rfl⟩ := rv1.int_inv
    obtain ⟨u, rfl⟩ := rv3.int_inv
    refine call_range_2 ?_
    obtain ⟨led', M', p', v'⟩ := new_at (o := .rng _ _) M (M.fr.push _) (News.push M.fr M.nw _ rfl) (fun p hp => Heap.lt_size (M.nw p hp).1) ⟨_, _, _, rfl⟩
    exact P led' _ _ _ p' M' v'
theorem itemsOf_range {ρ : List Addr} {a : Int} {acc : Array Value} {k : Nat} (h : ItemsOf (fun i v => ∃ t, v = .int (a + i * 1) t) acc k) : All2 (VR ρ) ((List.range k).map fun (j : Nat) => V.int (a + j)) acc.toList := by
  obtain ⟨h1, h2⟩ := h
  refine All2.of_get (by simp [h1]) fun i x y hx hy => ?_
  rw [List.getElem?_map] at hx
  obtain ⟨j, hj, rfl⟩ := Option.map_eq_some_iff.mp hx
  have lt := (List.getElem?_eq_some_iff.mp hj).1
  rw [List.length_range] at lt
  rw [List.getElem?_range lt] at hj
  cases hj
  obtain ⟨t, e⟩ := h2 i y (by simpa using hy)
  rw [e, Int.mul_one]
  rfl
theorem bc_list {T : Tab} (ok : FmOk C f) (tk : TabOk C T) : BC C f n (.type "list") (listV T) := by
  intro vs σ r h A mF aux led vals a rv s Q E M P
  unfold listV at h
  split at h <;> first | (cases h; done) | skip
  · rename_i k
    obtain ⟨v, vals', rfl, rv1, rv2⟩ := rv.cons_inv
    obtain rfl := rv2.nil_inv
    split at h <;> first | (cases h; done) | skip
    · rename_i us e
      cases h
      obtain ⟨x, its, m, rfl, h1, h2, h3, h4⟩ := list_at M e rv1
      refine list_copyK M.fr M.nw h4 (fun D c h' F' N' lt => ?_) (by simpa [← h2.length] using h3)
      obtain ⟨led', M', p', v'⟩ := new_at (o := .list us) M F' N' lt ⟨its, c, rfl, h2.imp fun _ _ => VR.mono (List.prefix_append _ _), h3⟩
      exact P led' _ _ _ p' M' v'
    · rename_i us e
      cases h
      obtain ⟨x, its, m, rfl, h1, h2, h3, h4⟩ := tup_at M e rv1
      refine list_copyKT M.fr M.nw h4 (fun D c h' F' N' lt => ?_) (by simpa [← h2.length] using h3)
      obtain ⟨led', M', p', v'⟩ := new_at (o := .list us) M F' N' lt ⟨its, c, rfl, h2.imp fun _ _ => VR.mono (List.prefix_append _ _), h3⟩
      exact P led' _ _ _ p' M' v'
    · rename_i x y e
      split at h <;> first | (cases h; done) | skip
      rename_i hs
      cases h
      obtain ⟨x', ob, rfl, h1, t, u, w, rfl⟩ := M.deref e rv1
      refine call_list_range a.handled (M.get h1) (small_range hs.1) (rangeSize_is x y) (by have := hs.2; omega) fun h' tk acc' c' hk hD hacc => ?_
      have hn : News f.h₀ f.L h' ((s.heap.objs.size, listOf acc' c') :: (led ++ aux)) := news_pushed M.fr M.nw hk hD rfl
      obtain ⟨led', M', p', v'⟩ := new_at (o := .list ((List.range (y - x).toNat).map fun (j : Nat) => V.int (x + j))) M (M.fr.keeps hk) hn (fun p hp => Heap.lt_size (M.nw p hp).1) ⟨acc'.toList, c', by simp, itemsOf_range hacc, by rw [sizeLine_is]; simp; omega⟩
      exact P led' _ _ _ p' M' v'
  · rename_i g
    obtain ⟨us, ht, h⟩ := Option.map_eq_some_iff.mp h
    cases h
    obtain ⟨v, vals', rfl, rv1, rv2⟩ := rv.cons_inv
    obtain rfl := rv2.nil_inv
    obtain rfl := rv1.glob_inv
    obtain ⟨its, m, dd, sl, hl, h2, h3⟩ := tk.tup _ _ ht
    have h4 : IsTup s.heap g its.toArray := tupK (ok.X.keeps M.fr.keep) hl
    refine list_copyKT M.fr M.nw h4 (fun D c h' F' N' lt => ?_) (by simpa [← h2.length] using h3)
    obtain ⟨led', M', p', v'⟩ := new_at (o := .list us) M F' N' lt ⟨its, c, rfl, h2.imp fun _ _ => VR.mono List.nil_prefix, h3⟩
    exact P led' _ _ _ p' M' v'
theorem looks_inst {M : Model} {h : Heap} {x dx : Addr} {c : Addr} (g : h.get? x = some (instObj c dx)) : Looks M h (typeOf (.ref x)) (.ref c) :=
  fun A Q E s k q => wpAny_bind (wpAny_loadPart (k _ _ g) (wpAny_pure q))
theorem bc_isi {T : Tab} (ok : FmOk C f) (tk : TabOk C T) : BC C f n (.builtin "isinstance") (isiV T) := by
  intro vs σ r h A mF aux led vals a rv s Q E M P
  unfold isiV at h
  split at h <;> first | (cases h; done) | skip
  · obtain ⟨v, vals', rfl, rv1, rv2⟩ := rv.cons_inv
    obtain ⟨v2, vals'', rfl, rv3, rv4⟩ := rv2.cons_inv
    obtain rfl := rv4.nil_inv
    obtain ⟨t, rfl⟩ := rv1.int_inv
    obtain rfl := rv3.ty_inv
    split at h
    · rename_i e
      subst e
      cases h
      exact PySem.IsiPair.int_int (P led s.heap _ _ (List.prefix_refl _) M rfl)
    · split at h
      · rename_i e
        subst e
        cases h
        exact PySem.IsiPair.int_bool (P led s.heap _ _ (List.prefix_refl _) M rfl)
      · cases h
  · rename_i k c
    split at h <;> first | (cases h; done) | skip
    rename_i c' d e
    split at h <;> first | (cases h; done) | skip
    rename_i e2
    obtain ⟨rfl, hcl⟩ := e2
    cases h
    obtain ⟨v, vals', rfl, rv1, rv2⟩ := rv.cons_inv
    obtain ⟨v2, vals'', rfl, rv3, rv4⟩ := rv2.cons_inv
    obtain rfl := rv4.nil_inv
    obtain rfl := rv3.glob_inv
    obtain ⟨x, ob, rfl, g1, dx, g2, rfl⟩ := M.deref e rv1
    refine isi_call (t := .ref c) (ok.X.keeps M.fr.keep) (fun _ => looks_inst (M.get g1)) (tk.cls _ hcl).isin (by intro e; cases e) (P led s.heap _ _ (List.prefix_refl _) M rfl)
end
end Mine

end
section
open PySem PySem.W PyProof.Rows PySem.Calls PySem.Spec PyProof.V PySem.SeqAt
set_option linter.unusedSimpArgs false
set_option linter.unusedVariables false
set_option autoImplicit false
set_option Elab.async false
namespace Mine
/-! ## sums, sorted, displays, chains, places in place -/
def numsV (T : Tab) (a : V) (σ : St) : Option (List Int) := match a with
  | .ref k => match σ[k]? with
    | some (.list vs) => intsV vs
    | some (.tup vs) => intsV vs
    | _ => none
  | .glob g => (T.tups g).bind intsV
  | _ => none
def sumV (T : Tab) : List V → St → Option (Rs V)
  | [a], σ => (numsV T a σ).bind fun ns => if (ns.all small) = true ∧ ns.length ≤ 1000 then some (.ok (.int ns.sum) σ) else none
  | _, _ => none
def insSort : List Int → List Int := fun l => l.foldr (fun a r => r.takeWhile (fun b => decide (b < a)) ++ a :: r.dropWhile (fun b => decide (b < a))) []
def sortV : List V → St → Option (Rs V)
  | [.ref k], σ => match σ[k]? with
    | some (.list vs) => (intsV vs).bind fun ns => if ns.length < 64 then some (.ok (.ref σ.length) (σ ++ [.list ((insSort ns).map .int)])) else none
    | _ => none
  | _, _ => none
section
variable {C : Ctx} {f : Fm} {n : Nat}
theorem ints_get {ns : List Int} {its : List Value} (h : IntsAre its ns) {i : Nat} {v : Value} (e : its[i]? = some v) : ∃ t, v = .int (ns.getD i 0) t := by
  induction h generalizing i with
  | nil => simp at e
  | cons n t h ih =>
    cases i with
    | zero => simp at e; subst e; exact ⟨t, by simp⟩
    | succ i => simp at e; obtain ⟨t, q⟩ := ih e; exact ⟨t, by simpa using q⟩
theorem sum_small : ∀ {ns : List Int}, ns.all small = true → -(1073741824 * (ns.length : Int)) ≤ ns.sum ∧ ns.sum ≤ 1073741824 * (ns.length : Int)
  | [], _ => by simp
  | a :: r, h => by
    rw [List.all_cons, Bool.and_eq_true] at h
    have h1 := of_decide_eq_true h.1
    have h2 := sum_small h.2
    simp only [List.sum_cons, List.length_cons]
    omega
theorem preSum_take (ks : List Int) : ∀ i : Nat, i ≤ ks.length → preSum (fun j => ks.getD j 0) i = (ks.take i).sum
  | 0, _ => by simp [preSum]
  | i + 1, h => by
    have hi : i < ks.length := h
    have e : ks.take (i + 1) = ks.take i ++ [ks[i]] := by simp
    have g : ks.getD i 0 = ks[i] := by rw [List.getD_eq_getElem?_getD, List.getElem?_eq_getElem hi]; rfl
    rw [preSum, preSum_take ks i (by omega), e, List.sum_append, g]
    show _ = _ + (ks[i] + 0)
    rw [Int.add_zero]
theorem fits_sum {ns : List Int} (h : ns.all small = true) (hl : ns.length ≤ 1000) (j : Nat) (hj : j < ns.length) : InLong (ns.getD j 0) ∧ InLong (preSum (fun i => ns.getD i 0) (j + 1)) := by
  have h1 : small (ns.getD j 0) = true := by
    rw [List.getD_eq_getElem?_getD, List.getElem?_eq_getElem hj]
    exact List.all_eq_true.mp h _ (List.getElem_mem hj)
  have h1 := of_decide_eq_true h1
  rw [preSum_take _ _ (by omega)]
  have h2 : (ns.take (j + 1)).all small = true := List.all_eq_true.mpr fun x hx => List.all_eq_true.mp h x (List.mem_of_mem_take hx)
  have h3 := sum_small h2
  have h4 : (ns.take (j + 1)).length ≤ 1000 := by rw [List.length_take]; omega
  unfold InLong
  omega
theorem bc_sum {T : Tab} (ok : FmOk C f) (tk : TabOk C T) : BC C f n (.builtin "sum") (sumV T) := by
  intro vs σ r h A mF aux led vals a rv s Q E M P
  unfold sumV at h
  split at h <;> first | (cases h; done) | skip
  rename_i x
  obtain ⟨ns, hn, h⟩ := Option.bind_eq_some_iff.mp h
  split at h <;> first | (cases h; done) | skip
  rename_i hs
  cases h
  obtain ⟨v, vals', rfl, rv1, rv2⟩ := rv.cons_inv
  obtain rfl := rv2.nil_inv
  have fin : ∀ (h' : Heap) (tk : Nat) (t' : Tok), (∀ b o, s.heap.get? b = some o → h'.get? b = some o) → Q (.int (preSum (fun i => ns.getD i 0) ns.length) t') { s with heap := h', toks := tk } := by
    intro h' tk t' hk
    rw [preSum_take _ _ (Nat.le_refl _), List.take_length]
    exact P led h' tk _ (List.prefix_refl _) (M.keeps hk) rfl
  have viaList : ∀ {l : Addr} {its : List Value}, s.heap.IsList l its.toArray → IntsAre its ns → wpAny (model C.prog C.w) A (call (.builtin "sum") [.ref l]) Q E s := by
    intro l its hl hi
    have hlt : l < s.heap.objs.size := by obtain ⟨_, e, _⟩ := hl; exact Heap.lt_size e
    have sz : its.toArray.size = ns.length := by simp [hi.length]
    refine call_sum_walk (wpAny_pyIter_list hl ?_)
    refine ⟨_, _, _, _, _, _, fun i => ns.getD i 0, rfl, Walks.list (A := A.in1) a.handled _ l (Nat.ne_of_lt hlt) its.toArray, ⟨⟨_, Heap.get?_push_size _ rfl, rfl, rfl⟩, hl.push _⟩, ?_, fun i v e => ints_get hi (by simpa using e), fun j hj => fits_sum hs.1 hs.2 j (by omega), fun h' tk t' hk => ?_⟩
    · intro b hb
      show b < (s.heap.push _).objs.size
      rw [Heap.size_push]
      rcases List.mem_cons.mp hb with rfl | hb
      · exact Nat.lt_succ_self _
      · rw [List.mem_singleton.mp hb]; exact Nat.lt_succ_of_lt hlt
    · rw [sz]
      refine fin h' tk t' fun b o e => hk b o (fun hm => ?_) (Heap.get?_push_of_some _ e)
      rw [List.mem_singleton.mp hm] at e
      exact Nat.lt_irrefl _ (Heap.lt_size e)
  have viaTup : ∀ {l : Addr} {its : List Value}, IsTup s.heap l its.toArray → IntsAre its ns → wpAny (model C.prog C.w) A (call (.builtin "sum") [.ref l]) Q E s := by
    intro l its hl hi
    have hlt : l < s.heap.objs.size := by obtain ⟨_, e, _⟩ := hl; exact Heap.lt_size e
    have sz : its.toArray.size = ns.length := by simp [hi.length]
    refine call_sum_walk (wpAny_pyIter_tuple hl ?_)
    refine ⟨_, _, _, _, _, _, fun i => ns.getD i 0, rfl, Walks.tuple (A := A.in1) a.handled _ l (Nat.ne_of_lt hlt) its.toArray, ⟨⟨_, Heap.get?_push_size _ rfl, rfl, rfl⟩, isTup_push hl _⟩, ?_, fun i v e => ints_get hi (by simpa using e), fun j hj => fits_sum hs.1 hs.2 j (by omega), fun h' tk t' hk => ?_⟩
    · intro b hb
      show b < (s.heap.push _).objs.size
      rw [Heap.size_push]
      rcases List.mem_cons.mp hb with rfl | hb
      · exact Nat.lt_succ_self _
      · rw [List.mem_singleton.mp hb]; exact Nat.lt_succ_of_lt hlt
    · rw [sz]
      refine fin h' tk t' fun b o e => hk b o (fun hm => ?_) (Heap.get?_push_of_some _ e)
      rw [List.mem_singleton.mp hm] at e
      exact Nat.lt_irrefl _ (Heap.lt_size e)
  unfold numsV at hn
  split at hn <;> first | (cases hn; done) | skip
  · rename_i k
    split at hn <;> first | (cases hn; done) | skip
    · rename_i us e
      obtain ⟨x, its, m, rfl, h1, h2, h3, h4⟩ := list_at M e rv1
      exact viaList h4 (intsV_are hn h2)
    · rename_i us e
      obtain ⟨x, its, m, rfl, h1, h2, h3, h4⟩ := tup_at M e rv1
      exact viaTup h4 (intsV_are hn h2)
  · rename_i g
    obtain ⟨us, ht, hn⟩ := Option.bind_eq_some_iff.mp hn
    obtain rfl := rv1.glob_inv
    obtain ⟨its, m, dd, sl, hl, h2, h3⟩ := tk.tup _ _ ht
    exact viaTup (tupK (ok.X.keeps M.fr.keep) hl) (intsV_are hn h2)
/-! ### sorted -/
theorem insSort_perm : ∀ l : List Int, (insSort l).Perm l
  | [] => .nil
  | a :: r => by
    have ih := insSort_perm r
    show ((insSort r).takeWhile _ ++ a :: (insSort r).dropWhile _).Perm (a :: r)
    refine List.perm_middle.trans (List.Perm.cons a ?_)
    rw [List.takeWhile_append_dropWhile]
    exact ih
theorem insert_sorted {a : Int} : ∀ {l : List Int}, l.Pairwise (· ≤ ·) → (l.takeWhile (fun b => decide (b < a)) ++ a :: l.dropWhile (fun b => decide (b < a))).Pairwise (· ≤ ·)
  | [], _ => by simp
  | b :: r, h => by
    rw [List.pairwise_cons] at h
    by_cases hb : b < a
    · simp only [List.takeWhile_cons, List.dropWhile_cons, hb, decide_true, if_true, List.cons_append, List.pairwise_cons]
      refine ⟨fun x hx => ?_, insert_sorted h.2⟩
      rw [List.mem_append, List.mem_cons] at hx
      rcases hx with hx | rfl | hx
      · exact h.1 x (List.takeWhile_subset _ hx)
      · omega
      · exact h.1 x (List.dropWhile_subset _ hx)
    · simp only [List.takeWhile_cons, List.dropWhile_cons, hb, decide_false, Bool.false_eq_true, if_false, List.nil_append, List.pairwise_cons]
      refine ⟨fun x hx => ?_, h⟩
      rcases List.mem_cons.mp hx with rfl | hx
      · omega
      · have := h.1 x hx; omega
theorem insSort_sorted : ∀ l : List Int, (insSort l).Pairwise (· ≤ ·)
  | [] => .nil
  | a :: r => insert_sorted (insSort_sorted r)
theorem sorted_unique : ∀ {l l' : List Int}, l.Perm l' → l.Pairwise (· ≤ ·) → l'.Pairwise (· ≤ ·) → l = l'
  | [], l', p, _, _ => by rw [List.nil_perm.mp p]
  | a :: r, l', p, h, h' => by
    cases l' with
    | nil => exact absurd p.length_eq (by simp)
    | cons b r' =>
      rw [List.pairwise_cons] at h h'
      have ha : a ∈ b :: r' := p.mem_iff.mp (.head _)
      have hb : b ∈ a :: r := p.mem_iff.mpr (.head _)
      have e : a = b := by
        rcases List.mem_cons.mp ha with q | q
        · exact q
        · rcases List.mem_cons.mp hb with q' | q'
          · exact q'.symm
          · have := h.1 b q'; have := h'.1 a q; omega
      subst e
      rw [sorted_unique (List.Perm.cons_inv p) h.2 h'.2]
theorem intsAre_map {ρ : List Addr} : ∀ {ns : List Int} {its : List Value}, IntsAre its ns → All2 (VR ρ) (ns.map V.int) its
  | _, _, .nil => trivial
  | _, _, .cons _ _ h => ⟨rfl, intsAre_map h⟩
theorem bc_sorted : BC C f n (.builtin "sorted") sortV := by
  intro vs σ r h A mF aux led vals a rv s Q E M P
  unfold sortV at h
  split at h <;> first | (cases h; done) | skip
  rename_i k
  split at h <;> first | (cases h; done) | skip
  rename_i us e
  obtain ⟨ns, hn, h⟩ := Option.bind_eq_some_iff.mp h
  split at h <;> first | (cases h; done) | skip
  rename_i hz
  cases h
  obtain ⟨v, vals', rfl, rv1, rv2⟩ := rv.cons_inv
  obtain rfl := rv2.nil_inv
  obtain ⟨x, its, m, rfl, h1, h2, h3, h4⟩ := list_at M e rv1
  have hi := intsV_are hn h2
  have ln := hi.length
  refine sorted_N M.fr M.nw h4 hi (by omega) fun h' vs' ns' ee F' N' hi' hp hs => ?_
  have e2 : ns' = insSort ns := sorted_unique (hp.trans (insSort_perm ns).symm) hs (insSort_sorted ns)
  subst e2
  have lp := (insSort_perm ns).length_eq
  obtain ⟨led', M', p', v'⟩ := new_at (o := .list ((insSort ns).map .int)) M F' N' (fun p hp => Nat.lt_succ_of_lt (Heap.lt_size (M.nw p hp).1)) ⟨vs', ee, rfl, intsAre_map hi', by rw [sizeLine_is]; simp; omega⟩
  exact P led' _ _ _ p' M' v'
/-! ### dicts made -/
def dict0 : EF := fun _ σ => some (.ok (.ref σ.length) (σ ++ [.dict [] (some 0)]))
theorem se_dict0 {pos : Pos} : SE C f n (.Dict [] [] pos) dict0 := by
  refine ⟨?_⟩
  intro le σ r h mF m aux led A a lc lr s Q E M P
  cases h
  refine wpAny_Dict_empty ?_
  have hd : Obj.IsDictOf (intKind C.prog C.w) ({ cls := .type "dict", data := .dict #[] } : Obj) [] := by
    obtain ⟨o, ho, hd⟩ := PySem.Heap.dictOf_iff.mp (Heap.DictOf.new (knd := intKind C.prog C.w) s.heap)
    rw [Heap.get?_push_size _ rfl] at ho
    exact (Option.some.inj ho) ▸ hd
  obtain ⟨led', M', p', v'⟩ := new_at (o := .dict [] (some 0)) M (M.fr.push _) (News.push M.fr M.nw _ rfl) (fun p hp => Heap.lt_size (M.nw p hp).1) ⟨[], hd, trivial, Nat.zero_le _, fun e he => ⟨#[], by cases he; rfl⟩⟩
  exact P led' _ _ _ p' M' v'
/-! ### chains of comparisons -/
def chainB (T : Tab) (call : CallF) (o1 o2 : COp) (e1 e2 e3 : EF) : EFb := fun le σ => bindR (e1 le σ) fun a σ1 => bindR (e2 le σ1) fun b σ2 => bindR (cmpV T call o1 a b σ2) fun c σ3 => bindR (truV c σ3) fun t σ4 => if t then bindR (e3 le σ4) fun d σ5 => bindR (cmpV T call o2 b d σ5) truV else some (.ok false σ4)
theorem sb_chain {T : Tab} {call : CallF} (ok : FmOk C f) (tk : TabOk C T) (hc : CallOk C T call n) {l r1 r2 : Expr} {o1 o2 : COp} {pos : Pos} {e1 e2 e3 : EF} (h1 : SE C f (n + 1) l e1) (h2 : SE C f (n + 1) r1 e2) (h3 : SE C f (n + 1) r2 e3) (hm : lastMarks [o1.py, o2.py] [r1, r2] = false) :
    SB C f (n + 1) (.Compare l [o1.py, o2.py] [r1, r2] pos) (chainB T call o1 o2 e1 e2 e3) := by
  refine ⟨?_⟩
  intro le σ r h mF m aux led A a lc lr s Q E M P
  refine isTrue_chain (compose h (fun r1 q => h1.p le σ r1 q mF m aux led A a lc lr) M P fun x σ1 led1 hp1 tk1 b hk p1 M1 R1 P1 => ?_) hm
  refine test_link (compose hk (fun r1 q => h2.p le σ1 r1 q mF m aux led1 A a lc (lr.mono p1)) M1 P1 fun y σ2 led2 hp2 tk2 b2 hk2 p2 M2 R2 P2 => ?_)
  refine compose hk2 (fun r1 q => cmp_ok ok tk hc o1 x y σ2 _ q A mF aux led2 _ _ a (R1.mono p2) R2) M2 P2 fun z σ3 led3 hp3 tk3 b3 hk3 p3 M3 R3 P3 => ?_
  refine compose hk3 (fun r1 q => tru_ok ok z σ3 _ q A mF aux led3 _ a R3) M3 P3 fun t σ4 led4 hp4 tk4 b4 hk4 p4 M4 R4 P4 => ?_
  subst R4
  cases t with
  | false => cases hk4; exact P4 led4 hp4 tk4 _ (List.prefix_refl _) M4 rfl
  | true =>
    refine test_last (compose hk4 (fun r1 q => h3.p le σ4 r1 q mF m aux led4 A a lc (lr.mono (p1.trans (p2.trans (p3.trans p4))))) M4 P4 fun d σ5 led5 hp5 tk5 b5 hk5 p5 M5 R5 P5 => ?_)
    refine compose hk5 (fun r1 q => cmp_ok ok tk hc o2 y d σ5 _ q A mF aux led5 _ _ a (R2.mono (p3.trans (p4.trans p5))) R5) M5 P5 fun w σ6 led6 hp6 tk6 b6 hk6 p6 M6 R6 P6 => ?_
    exact tru_ok ok w σ6 _ hk6 A mF aux led6 _ a R6 _ _ _ M6 P6
/-! ### a place in place -/
theorem gi_ok {T : Tab} (ok : FmOk C f) (tk : TabOk C T) : P2 C f n VR (fun a b => getItem a b) (getV T) := by
  intro a i σ r h A mF aux led va vi aok ra ri
  unfold getV at h
  split at h
  · rename_i k i
    obtain ⟨t, rfl⟩ := ri.int_inv
    split at h
    · rename_i vs e
      obtain ⟨j, hj, h⟩ := Option.bind_eq_some_iff.mp h
      obtain ⟨v, hv, rfl⟩ := Option.map_eq_some_iff.mp h
      intro s Q E M P
      obtain ⟨a, its, m, rfl, h1, h2, h3, h4⟩ := list_at M e ra
      exact getItem_list_at h4 h2 h3 hj hv fun val hr => P led s.heap s.toks _ (List.prefix_refl _) M hr
    · rename_i vs e
      obtain ⟨j, hj, h⟩ := Option.bind_eq_some_iff.mp h
      obtain ⟨v, hv, rfl⟩ := Option.map_eq_some_iff.mp h
      intro s Q E M P
      obtain ⟨a, its, m, rfl, h1, h2, h3, h4⟩ := tup_at M e ra
      have z := size_of h2 h3
      have e := h2.length
      obtain ⟨val, hval, hr⟩ := h2.get hv
      have hc := idx_case hj
      exact PyProof.Rows.getItem_tuple h4 (by omega) (by omega) (by rw [List.size_toArray, ← e]; exact idx_seq hj) (by simpa using hval) (P led s.heap s.toks _ (List.prefix_refl _) M hr)
    · rename_i kvs ep e
      obtain ⟨p, hp, rfl⟩ := Option.map_eq_some_iff.mp h
      intro s Q E M P
      obtain ⟨a, ob, kv, rfl, h1, h2, h3, h4, h5, h6⟩ := dict_at ok M e ra
      obtain ⟨v, hv, hr⟩ := valueAt_of h3 hp
      exact wpAny_getItem_of (knd := intKind C.prog C.w) (k := i) (by simp [intKind, Value.isInt]) h5.mapOf hv (P led s.heap _ _ (List.prefix_refl _) M hr)
    · cases h
  · rename_i x i
    obtain ⟨t, rfl⟩ := ri.int_inv
    obtain rfl := ra.glob_inv
    obtain ⟨vs, ht, h⟩ := Option.bind_eq_some_iff.mp h
    obtain ⟨j, hj, h⟩ := Option.bind_eq_some_iff.mp h
    obtain ⟨v, hv, rfl⟩ := Option.map_eq_some_iff.mp h
    intro s Q E M P
    obtain ⟨its, m, dd, sl, hl, h2, h3⟩ := tk.tup _ _ ht
    have z := size_of h2 h3
    have e := h2.length
    obtain ⟨val, hval, hr⟩ := h2.get hv
    have hc := idx_case hj
    have h4 : IsTup s.heap x its.toArray := tupK (ok.X.keeps M.fr.keep) hl
    exact PyProof.Rows.getItem_tuple h4 (by omega) (by omega) (by rw [List.size_toArray, ← e]; exact idx_seq hj) (by simpa using hval) (P led s.heap s.toks _ (List.prefix_refl _) M (hr.mono List.nil_prefix))
  · cases h
theorem ss_augI {T : Tab} (ok : FmOk C f) (tk : TabOk C T) {o i e : Expr} {op : BOp} {p pos : Pos} {eo ei ev : EF} (ho : SE C f n o eo) (hi : SE C f n i ei) (he : SE C f n e ev)
    (hst : ∀ ov iv new, augStore i ov iv new = (do holding [new, ov, iv] (setItem ov iv new); release [new, ov, iv] []; pure .next)) : SS C f n (.AugAssign (.Subscript o i p) op.py e pos) (augI T op eo ei ev) := by
  refine ⟨?_⟩
  intro le σ r h m aux led A a hl l s Q E M P
  refine PySem.wpAny_AugAssign_SubscriptAny (stepE h (fun r1 q => ho.p le σ r1 q) a hl l M P fun x σ1 led1 hp1 tk1 b hk p1 M1 R1 l1 P1 => ?_) hst
  refine stepE hk (fun r1 q => hi.p le σ1 r1 q) a hl l1 M1 P1 fun y σ2 led2 hp2 tk2 b2 hk p2 M2 R2 l2 P2 => ?_
  refine stepD hk (fun r1 q => gi_ok ok tk x y σ2 r1 q A m aux led2 b b2 a (R1.mono p2) R2) l2 M2 P2 fun z σ3 led3 hp3 tk3 b3 hk p3 M3 R3 l3 P3 => ?_
  refine stepE hk (fun r1 q => he.p le σ3 r1 q) a hl l3 M3 P3 fun w σ4 led4 hp4 tk4 b4 hk p4 M4 R4 l4 P4 => ?_
  refine stepD hk (fun r1 q => inp_ok ok q a (R3.mono p4) R4) l4 M4 P4 fun u σ5 led5 hp5 tk5 b5 hk p5 M5 R5 l5 P5 => ?_
  refine stepD hk (fun r1 q => set_ok ok q a (R1.mono (p2.trans (p3.trans (p4.trans p5)))) (R2.mono (p3.trans (p4.trans p5))) R5) l5 M5 P5 fun z σ6 led6 hp6 tk6 b6 hk p6 M6 R6 l6 P6 => ?_
  cases hk
  exact P6.here M6 l6 (by trivial)
end
end Mine

end
section
open PySem PySem.W PyProof.Rows PySem.Calls PySem.Spec PyProof.V PySem.SeqAt
set_option linter.unusedSimpArgs false
set_option linter.unusedVariables false
set_option autoImplicit false
set_option Elab.async false
namespace Mine
/-! ## blocks of their own: list displays with for -/
def cellNames : List (Str × NameKind) → List Str
  | [] => []
  | (x, k) :: r => if k == .cell then x :: cellNames r else cellNames r
def closL (cells : List (Str × Addr)) : List (Str × NameKind) → List (Str × Addr) → List (Str × Addr)
  | [], acc => acc
  | (x, k) :: r, acc => if k == .free then closL cells r ((x, (cells.lookup x).getD 0) :: acc) else closL cells r acc
theorem closureFor_is {sc : Scope} {env : Env} (h : ∀ x ∈ sc.names, x.2 = .free → ∃ a, env.cells.lookup x.1 = some a) : closureFor sc env = pure (closL env.cells sc.names []) := by
  have key : ∀ (names : List (Str × NameKind)) (acc : List (Str × Addr)), (∀ x ∈ names, x.2 = .free → ∃ a, env.cells.lookup x.1 = some a) →
      (forIn names acc fun (p : Str × NameKind) (cs : List (Str × Addr)) => match p with | (name, kind) => if (kind == .free) = true then (do let a ← cellOf env name; pure (ForInStep.yield ((name, a) :: cs))) else pure (ForInStep.yield cs)) = (pure (closL env.cells names acc) : Sem (List (Str × Addr))) := by
    intro names
    induction names with
    | nil => intro acc _; rfl
    | cons p r ih =>
      intro acc h
      obtain ⟨x, k⟩ := p
      rw [List.forIn_cons]
      dsimp only
      unfold closL
      by_cases hk : (k == NameKind.free) = true
      · rw [if_pos hk, if_pos hk]
        obtain ⟨a, ha⟩ := h (x, k) (.head _) (by simpa using hk)
        have ec : cellOf env x = pure a := by unfold cellOf; rw [ha]
        rw [ec, ha]
        exact ih _ fun y hy => h y (.tail _ hy)
      · rw [if_neg hk, if_neg hk]
        exact ih _ fun y hy => h y (.tail _ hy)
  have := key sc.names [] h
  unfold closureFor
  exact (congrArg (fun t => t >>= fun cs => (pure cs : Sem (List (Str × Addr)))) this).trans rfl
theorem closL_off {cells : List (Str × Addr)} {x : Str} : ∀ {names : List (Str × NameKind)} {acc : List (Str × Addr)}, (x, NameKind.free) ∉ names → (closL cells names acc).lookup x = acc.lookup x
  | [], _, _ => rfl
  | (y, k) :: r, acc, h => by
    unfold closL
    have hr : (x, NameKind.free) ∉ r := fun q => h (.tail _ q)
    split
    · rename_i hk
      have hk : k = .free := by simpa using hk
      subst hk
      rw [closL_off hr, List.lookup_cons]
      have : (x == y) = false := by
        have : x ≠ y := fun e => h (by rw [e]; exact .head _)
        simpa using this
      rw [this]
    · exact closL_off hr
theorem closL_at {cells : List (Str × Addr)} {x : Str} {a : Addr} (ha : cells.lookup x = some a) : ∀ {names : List (Str × NameKind)} {acc : List (Str × Addr)}, ((x, NameKind.free) ∈ names ∨ acc.lookup x = some a) → (closL cells names acc).lookup x = some a
  | [], _, h => by rcases h with h | h; exact absurd h List.not_mem_nil; exact h
  | (y, k) :: r, acc, h => by
    unfold closL
    split
    · rename_i hk
      have hk : k = .free := by simpa using hk
      subst hk
      by_cases e : x = y
      · subst e
        exact closL_at ha (.inr (by rw [ha]; simp))
      · have e' : (x == y) = false := by simpa using e
        refine closL_at ha ?_
        rcases h with h | h
        · rcases List.mem_cons.mp h with q | q
          · cases q; exact absurd rfl e
          · exact .inl q
        · exact .inr (by rw [List.lookup_cons, e']; exact h)
    · rename_i hk
      refine closL_at ha ?_
      rcases h with h | h
      · rcases List.mem_cons.mp h with q | q
        · cases q; simp at hk
        · exact .inl q
      · exact .inr h
theorem cellsFrom_off {x : Str} : ∀ {names : List (Str × NameKind)} {n : Nat} {acc : List (Str × Addr)}, x ∉ cellNames names → (cellsFrom n names acc).lookup x = acc.lookup x
  | [], _, _, _ => rfl
  | (y, k) :: r, n, acc, h => by
    unfold cellsFrom
    unfold cellNames at h
    split
    · rename_i hk
      rw [if_pos hk] at h
      rw [cellsFrom_off (fun q => h (.tail _ q)), List.lookup_cons]
      have : (x == y) = false := by
        have : x ≠ y := fun e => h (by rw [e]; exact .head _)
        simpa using this
      rw [this]
    · rename_i hk
      rw [if_neg hk] at h
      exact cellsFrom_off h
theorem cellsFrom_at {x : Str} : ∀ {names : List (Str × NameKind)} {n j : Nat} {acc : List (Str × Addr)}, (cellNames names).Nodup → (cellNames names)[j]? = some x → (cellsFrom n names acc).lookup x = some (n + j)
  | [], _, _, _, _, h => by simp [cellNames] at h
  | (y, k) :: r, n, j, acc, nd, h => by
    unfold cellsFrom
    unfold cellNames at h nd
    split
    · rename_i hk
      rw [if_pos hk] at h nd
      rw [List.nodup_cons] at nd
      cases j with
      | zero =>
        simp at h
        subst h
        rw [cellsFrom_off nd.1]
        simp
      | succ j =>
        rw [cellsFrom_at nd.2 (by simpa using h)]
        congr 1
        omega
    · rename_i hk
      rw [if_neg hk] at h nd
      exact cellsFrom_at nd h
section
variable {C : Ctx} {f : Fm} {n : Nat}
/-- new cells behind the ledger -/
theorem push_cells {mF : Str → Option Value} {aux : Led} : ∀ (names : List (Str × NameKind)) {led : Led} {σ : St} {h : Heap}, MemC C f mF aux led σ h →
    ∃ led', MemC C f mF aux led' (σ ++ List.replicate (cellNames names).length (.cell none)) (pushCells h names) ∧ ats led <+: ats led' ∧ ∀ j, j < (cellNames names).length → (ats led')[σ.length + j]? = some (h.objs.size + j)
  | [], led, σ, h, M => ⟨led, by simpa [cellNames, pushCells] using M, List.prefix_refl _, fun j hj => by simp [cellNames] at hj⟩
  | (y, k) :: r, led, σ, h, M => by
    unfold pushCells
    unfold cellNames
    split
    · rename_i hk
      obtain ⟨led1, M1, p1, v1⟩ := new_at (o := .cell none) M (M.fr.push ({ cls := .type "cell", data := .cell none } : Obj)) (News.push M.fr M.nw _ rfl) (fun p hp => Heap.lt_size (M.nw p hp).1) ⟨none, rfl, trivial⟩
      obtain ⟨led2, M2, p2, v2⟩ := push_cells r M1
      refine ⟨led2, ?_, p1.trans p2, fun j hj => ?_⟩
      · rw [List.length_cons, List.replicate_succ]
        have e : σ ++ O.cell none :: List.replicate (cellNames r).length (O.cell none) = (σ ++ [O.cell none]) ++ List.replicate (cellNames r).length (O.cell none) := by simp
        rw [e]; exact M2
      · cases j with
        | zero => exact pre_get p2 v1
        | succ j =>
          have := v2 j (by simpa using hj)
          rw [Heap.size_push, List.length_append] at this
          simp only [List.length_cons, List.length_nil] at this
          rw [show σ.length + (j + 1) = σ.length + (0 + 1) + j by omega, this]
          congr 1
          omega
    · exact push_cells r M
end
/-- the block's scope and names -/
structure CompSt (f : Fm) (sc : Scope) (xs : List Str) (frn : List Str) (fr : List Nat) : Prop where
  kind : sc.kind = .function
  nameL : ∀ x ∈ sc.names, x.2 = .local → sc.names.lookup x.1 = some .local
  xl : ∀ x ∈ xs, (relabel sc f.env).names.lookup x = some .local
  xn : xs.Nodup
  own : (cellNames sc.names).Nodup
  cl : ∀ x ∈ cellNames sc.names ++ frn, (relabel sc f.env).names.lookup x = some .cell
  fre : ∀ x ∈ sc.names, x.2 = .free → x.1 ∈ f.cs
  frs : All2 (fun x j => f.cs[j]? = some x) frn fr
  frf : ∀ x ∈ frn, (x, NameKind.free) ∈ sc.names ∧ x ∉ cellNames sc.names
  hid : ∀ x ∈ xs ++ (cellNames sc.names ++ frn), (x == ("__debug__" : Str)) = false
def compFm (f : Fm) (sc : Scope) (xs frn : List Str) (D : Addr) : Fm :=
  { f with env := compEnvC sc (cellsFrom (D + 1) sc.names (closL f.env.cells sc.names [])) D f.env, xs := xs, cs := cellNames sc.names ++ frn }
def compLe (le : Le) (nl no : Nat) (fr : List Nat) (σ : St) : Le := ⟨List.replicate nl none, (List.range no).map (σ.length + ·) ++ fr.map fun j => (le.cl[j]?).getD 0⟩
section
variable {C : Ctx} {f : Fm} {n : Nat}
theorem compFm_ok (ok : FmOk C f) {sc : Scope} {xs frn : List Str} {fr : List Nat} (S : CompSt f sc xs frn fr) (D : Addr) : FmOk C (compFm f sc xs frn D) where
  X := ok.X
  g := ok.g
  b := ok.b
  nolimit := ok.nolimit
  mods := ok.mods
  scr := ok.scr
  below := ok.below
  frame := ok.frame
  kind := ok.kind
  eframe := ok.eframe
  ekind := S.kind
  eglob := ok.eglob
  ebi := ok.ebi
  xl := S.xl
  xn := S.xn
  cl := S.cl
  hid := S.hid
theorem compLe_ok {sc : Scope} {xs frn : List Str} {fr : List Nat} (S : CompSt f sc xs frn fr) {le : Le} {m : Str → Option Value} {ρ ρ' : List Addr} (l : LeR f ρ m le) (p : ρ <+: ρ') {σ : St} {D : Addr} (hv : ∀ j, j < (cellNames sc.names).length → ρ'[σ.length + j]? = some (D + 1 + j)) {m' : Str → Option Value} (hm : ∀ x, m' x = none) :
    LeR (compFm f sc xs frn D) ρ' m' (compLe le xs.length (cellNames sc.names).length fr σ) := by
  refine ⟨?_, ?_⟩
  · refine All2.of_get (by simp [compFm, compLe]) fun i x ov hx ho => ?_
    have : ov = none := by
      simp only [compLe] at ho
      exact (List.mem_replicate.mp (mem_of_get ho)).2
    subst this
    rw [hm]; trivial
  · show All2 _ (cellNames sc.names ++ frn) _
    refine All2.append ?_ ?_
    · refine All2.of_get (by simp) fun i x k hx hk => ?_
      rw [List.getElem?_map] at hk
      obtain ⟨j, hj, rfl⟩ := Option.map_eq_some_iff.mp hk
      have lt := (List.getElem?_eq_some_iff.mp hj).1
      rw [List.length_range] at lt
      rw [List.getElem?_range lt] at hj
      cases hj
      exact ⟨_, cellsFrom_at S.own hx, hv _ lt⟩
    · refine All2.of_get (by simpa using S.frs.length) fun i x k hx hk => ?_
      rw [List.getElem?_map] at hk
      obtain ⟨j, hj, rfl⟩ := Option.map_eq_some_iff.mp hk
      obtain ⟨j', hj', hx'⟩ := S.frs.get hx
      rw [hj] at hj'; cases hj'
      obtain ⟨k, hk, a, ha, hr⟩ := l.cl.get hx'
      obtain ⟨h1, h2⟩ := S.frf x (mem_of_get hx)
      refine ⟨a, ?_, ?_⟩
      · show (cellsFrom (D + 1) sc.names (closL f.env.cells sc.names [])).lookup x = some a
        rw [cellsFrom_off h2]
        exact closL_at ha (.inl h1)
      · rw [hk]; exact pre_get p hr
end
end Mine

end
section
open PySem PySem.W PyProof.Rows PySem.Calls PySem.Spec PyProof.V PySem.SeqAt
set_option linter.unusedSimpArgs false
set_option linter.unusedVariables false
set_option autoImplicit false
set_option Elab.async false
namespace Mine
/-! ## list displays with for: the walk -/
def testE : Option EFb → EFb
  | none => fun _ σ => some (.ok true σ)
  | some e => e
def compL (T : Tab) (a : V) (kd : Kd) (len : Nat) (tf : TF) (test : Option EFb) (elt : EF) : Nat → Le → St → List V → Option (St × List V)
  | 0, _, σ, ys => if kdOf T a σ = some (kd, len) then some (σ, ys) else none
  | k + 1, le, σ, ys => if kdOf T a σ = some (kd, len) then (itemAt T a (len - (k + 1)) σ).bind fun v => (tf v le σ).bind fun p => match testE test ⟨p.1, le.cl⟩ p.2 with
      | some (.ok true σ2) => match elt ⟨p.1, le.cl⟩ σ2 with
        | some (.ok y σ3) => if ys.length < 16777216 then compL T a kd len tf test elt k ⟨p.1, le.cl⟩ σ3 (ys ++ [y]) else none
        | _ => none
      | some (.ok false σ2) => compL T a kd len tf test elt k ⟨p.1, le.cl⟩ σ2 ys
      | _ => none
    else none
def compR (T : Tab) (tup : Bool) (nl no : Nat) (fr : List Nat) (tf : TF) (test : Option EFb) (elt : EF) (le : Le) (a : V) (σ1 : St) : Option (St × List V) :=
  (kdOf T a σ1).bind fun p => if tup = false ∨ p.1 = .list then compL T a p.1 p.2 tf test elt p.2 (compLe le nl no fr σ1) (σ1 ++ List.replicate no (.cell none)) [] else none
def compE (T : Tab) (tup : Bool) (it : EF) (nl no : Nat) (fr : List Nat) (tf : TF) (test : Option EFb) (elt : EF) : EF := fun le σ => bindR (it le σ) fun a σ1 => (compR T tup nl no fr tf test elt le a σ1).map fun q => .ok (.ref q.1.length) (q.1 ++ [.list q.2])
section
variable {C : Ctx} {f : Fm} {n : Nat}
theorem Mem.perm {mF : Str → Option Value} {aux aux' led : Led} {σ : St} {h : Heap} (M : MemC C f mF aux led σ h) (p : aux.Perm aux') : MemC C f mF aux' led σ h := by
  have q : (led ++ aux).Perm (led ++ aux') := p.append_left led
  exact ⟨M.fr, fun x hx => M.nw x (q.mem_iff.mpr hx), ((q.map (·.1)).nodup_iff).mp M.nd, M.rel⟩
theorem Mem.auxToLed {mF : Str → Option Value} {aux led : Led} {σ : St} {h : Heap} {x : Addr} {ob : Obj} {o : O} (M : MemC C f mF ((x, ob) :: aux) led σ h) (r : ObjR C.prog C.w (ats led ++ [x]) o ob) :
    ∃ led', MemC C f mF aux led' (σ ++ [o]) h ∧ ats led <+: ats led' ∧ VR (ats led') (.ref σ.length) (.ref x) := by
  have ek : ats (led ++ [(x, ob)]) = ats led ++ [x] := by show List.map _ _ = _; rw [List.map_append]; rfl
  have pr : ats led <+: ats (led ++ [(x, ob)]) := ek ▸ List.prefix_append _ _
  refine ⟨led ++ [(x, ob)], ⟨M.fr, fun p hp => M.nw p ?_, ?_, ?_⟩, pr, ?_⟩
  · rw [List.append_assoc] at hp; exact hp
  · rw [List.append_assoc]; exact M.nd
  · rw [ek]
    exact (M.rel.imp fun _ _ r => r.mono (List.prefix_append _ _)).append ⟨r, trivial⟩
  · show (ats (led ++ [_]))[σ.length]? = _
    have l : σ.length = (ats led).length := by rw [← M.rel.length]; show _ = (List.map _ _).length; rw [List.length_map]
    rw [ek, l]; simp
theorem nsObj_of {h : Heap} {d : Addr} {m : Str → Option Value} (x : h.Ns d m) : ∃ o, h.get? d = some o ∧ nsObj o m := by
  obtain ⟨o, es, ep, h1, h2, h3, h4⟩ := x
  exact ⟨o, h1, es, ep, h2, h3, h4⟩
theorem nsObj_ns {h : Heap} {d : Addr} {m : Str → Option Value} {o : Obj} (g : h.get? d = some o) (x : nsObj o m) : h.Ns d m := by
  obtain ⟨es, ep, h2, h3, h4⟩ := x
  exact ⟨o, es, ep, g, h2, h3, h4⟩
theorem newCompEnv {M : Model} {A : Around} {E : Value → Shared → Prop} {s : Shared} {sc : Scope} {env : Env} {cl : List (Str × Addr)} {Q : Env → Shared → Prop}
    (hQ : Q (newEnv sc s.heap.objs.size env.globals (cellsFrom (s.heap.objs.size + 1) sc.names cl) env.qual none .none (some env) builtinsNs) { s with heap := pushCells (s.heap.push { cls := .type "dict", data := .dict #[] }) sc.names }) :
    wpAny M A (newFunctionEnv sc env.globals cl [] env.qual none .none (some env)) Q E s := by
  simp only [newFunctionEnv, Option.isSome_some, if_true]
  refine wpAny_bind (wpAny_alloc ?_)
  refine wpAny_bind (wpAny_layCells _ (fun name kind cells => by cases hkc : kind == NameKind.cell <;> simp [hkc]) _ _ _ _ ?_)
  rw [show ({ s with heap := s.heap.push { cls := .type "dict", data := .dict #[] } } : Shared).heap.objs.size = s.heap.objs.size + 1 from Heap.size_push ..]
  exact wpAny_bind (wpAny_pure (wpAny_pure hQ))
theorem compLoop_any {prog : Program} {w : World} {A : Around} {s : Shared} {elt target iter : Expr} {ifs : List Expr} {scope : Scope} {pos : Pos} {it acc : Value} {env : Env} {R : Result → Shared → Prop} (I : Nat → Shared → Prop)
    (turn : ∀ n s, I n s → wpAny (model prog w) A (pyNext it) (fun r s₁ => match r with
      | none => R (.ok .next) s₁
      | some v => wpAny (model prog w) A (letOwnedTupleGo target it v) (fun _ s₁' => wpAny (model prog w) A (assign target env v) (fun _ s₂ =>
          wpAny (model prog w) A (forIn ifs true fun c r => if r = true then do let ok ← isTrue c env (eval c env); pure (ForInStep.yield ok) else pure (ForInStep.yield r)) (fun ok s₃ =>
            if ok = true then wpAny (model prog w) A (eval elt env) (fun x s₄ =>
              wpAny (model prog w) A (call (.builtin "list.append") [acc, x]) (fun _ s₅ => ∃ m, m < n ∧ I m s₅) (notedBy (model prog w) A env fun e s' => R (.error e) s') s₄) (notedBy (model prog w) A env fun e s' => R (.error e) s') s₃
            else ∃ m, m < n ∧ I m s₃) (notedBy (model prog w) A env fun e s' => R (.error e) s') s₂) (notedBy (model prog w) A env fun e s' => R (.error e) s') s₁') (notedBy (model prog w) A env fun e s' => R (.error e) s') s₁) (notedBy (model prog w) A env fun e s' => R (.error e) s') s)
    (n : Nat) (h : I n s) : codeAny (model prog w) A (.compLoop (.ListComp elt [⟨target, iter, ifs, 0⟩] scope pos) 0 it acc env) R s := by
  refine codeAny_loop rfl I (fun n s hI => ?_) n h
  show wpAny _ A ((compTurn (.ListComp elt [⟨target, iter, ifs, 0⟩] scope pos) 0 it acc env).onRaise (fun x => do noteFrame x env; theTreesLotGoes x)) _ _ s
  refine wpAny_noted ?_
  rw [compTurn_list]
  refine wpAny_bind (wpAny_standAt (wpAny_bind (wpAny_mono (turn n s hI) (fun r s₁ h₁ => ?_) fun _ _ h' => h')))
  cases r with
  | none => exact wpAny_pure h₁
  | some v =>
    refine wpAny_bind (wpAny_mono h₁ (fun _ s₁' h₁' => ?_) fun _ _ h' => h')
    refine wpAny_bind (wpAny_mono h₁' (fun _ s₂ h₂ => wpAny_bind (wpAny_mono h₂ (fun ok s₃ h₃ => ?_) fun _ _ h' => h')) fun _ _ h' => h')
    cases ok with
    | false => exact wpAny_pure ⟨rfl, h₃⟩
    | true =>
      exact wpAny_bind (wpAny_bind (wpAny_mono h₃ (fun x s₄ h₄ => wpAny_bind (wpAny_mono h₄ (fun _ s₅ h₅ => wpAny_pure (wpAny_pure ⟨rfl, h₅⟩)) fun _ _ h' => h')) fun _ _ h' => h'))
end
/-! ### targets of a block -/
section
variable (C : Ctx) (f : Fm)
structure TGc (n : Nat) (t : Expr) (tf : TF) : Prop where
  p : ∀ v le σ lo' σ', tf v le σ = some (lo', σ') → ∀ mF m od rest led A, AOk f n A → nsObj od m → LeR f (ats led) m le → ∀ s Q E val, MemC C f mF ((f.env.locals, od) :: rest) led σ s.heap → VR (ats led) v val →
  (∀ m' od' led' h' tk, ats led <+: ats led' → MemC C f mF ((f.env.locals, od') :: rest) led' σ' h' → nsObj od' m' → LeR f (ats led') m' ⟨lo', le.cl⟩ → Q () { s with heap := h', toks := tk }) → wpAny (model C.prog C.w) A (assign t f.env val) Q E s
def TS (n : Nat) : List Expr → Option EFb → Prop
  | [], none => True
  | [c], some e => SB C f n c e
  | _, _ => False
end
section
variable {C : Ctx} {f : Fm} {n : Nat}
theorem tc_L (ok : FmOk C f) {x : Str} {i : Nat} {p : Pos} (hx : f.xs[i]? = some x) : TGc C f n (.Name x p) (tgL i) := by
  refine ⟨?_⟩
  intro v le σ lo' σ' h mF m od rest led A a ho l s Q E val M r q
  cases h
  refine wpAny_assign_Name (wpAny_storeName_local (ok.xl x (mem_of_get hx)) (nsObj_ns M.auxGet ho) (fun h' hn hs => ?_) (by rw [ok.ekind]; rfl))
  obtain ⟨od', g, ho'⟩ := nsObj_of hn
  exact q _ od' led h' _ (List.prefix_refl _) (M.auxHead hs g) ho' (l.setLo ok hx r)
theorem tc_C (ok : FmOk C f) {x : Str} {j : Nat} {p : Pos} (hx : f.cs[j]? = some x) : TGc C f n (.Name x p) (tgC j) := by
  refine ⟨?_⟩
  intro v le σ lo' σ' h mF m od rest led A a ho l s Q E val M r q
  obtain ⟨σ2, hc, e⟩ := Option.map_eq_some_iff.mp h
  cases e
  refine wpAny_assign_Name (store_cell ok hx l M r hc fun h' led' ek M2 => ?_)
  exact q m od led' h' _ (by rw [ek]; exact List.prefix_refl _) M2 ho (by rw [ek]; exact l)
inductive TGcs (C : Ctx) (f : Fm) (n : Nat) : List Expr → List TF → Prop
  | nil : TGcs C f n [] []
  | cons {t : Expr} {ts : List Expr} {tf : TF} {tfs : List TF} : TGc C f n t tf → assignEach (t :: ts) f.env = (false, assign t f.env) :: assignEach ts f.env → TGcs C f n ts tfs → TGcs C f n (t :: ts) (tf :: tfs)
theorem TGcs.len {ts : List Expr} {tfs : List TF} (h : TGcs C f n ts tfs) : (assignEach ts f.env).length = tfs.length ∧ (assignEach ts f.env).findIdx? (·.1) = none := by
  induction h with
  | nil => exact ⟨rfl, rfl⟩
  | cons h1 h2 h3 ih =>
    rw [h2]
    refine ⟨by simp [ih.1], ?_⟩
    rw [List.findIdx?_cons]
    simp [ih.2]
theorem storesC_ok {ts : List Expr} {tfs : List TF} (h : TGcs C f n ts tfs) : ∀ {vs : List V} {w : V} {le : Le} {σ : St} {lo' : List (Option V)} {σ' : St}, stores tfs vs w le σ = some (lo', σ') → ∀ {mF m : Str → Option Value} {od : Obj} {rest led : Led} {A : Around}, AOk f n A → nsObj od m → LeR f (ats led) m le →
    ∀ {s : Shared} {Q : Unit → Shared → Prop} {E : Value → Shared → Prop} {vals : List Value}, MemC C f mF ((f.env.locals, od) :: rest) led σ s.heap → All2 (VR (ats led)) vs vals →
    (∀ m' od' led' h' tk, ats led <+: ats led' → MemC C f mF ((f.env.locals, od') :: rest) led' σ' h' → nsObj od' m' → LeR f (ats led') m' ⟨lo', le.cl⟩ → Q () { s with heap := h', toks := tk }) → wpAny (model C.prog C.w) A (assignInOrder ((assignEach ts f.env).map (·.2)) vals) Q E s := by
  induction h with
  | nil =>
    intro vs w le σ lo' σ' h mF m od rest led A a ho l s Q E vals M r q
    cases vs with
    | nil => cases h; exact assignInOrder_nil (q m od led s.heap s.toks (List.prefix_refl _) M ho l)
    | cons => cases h
  | cons h1 h2 h3 ih =>
    intro vs w le σ lo' σ' h mF m od rest led A a ho l s Q E vals M r q
    cases vs with
    | nil => cases h
    | cons v vs =>
      obtain ⟨⟨lo1, σ1⟩, g1, g2⟩ := Option.bind_eq_some_iff.mp h
      obtain ⟨val, vals', rfl, r1, r2⟩ := r.cons_inv
      rw [h2, List.map_cons]
      refine assignInOrder_cons (h1.p v le σ lo1 σ1 g1 mF m od rest led A a ho l s _ E val M r1 fun m1 od1 led1 hp1 tk1 p1 M1 ho1 l1 => ?_)
      exact ih g2 a ho1 l1 M1 (r2.imp fun _ _ => VR.mono p1) fun m' od' led' h' tk p M' ho' l' => q m' od' led' h' tk (p1.trans p) M' ho' l'
theorem tc_T {ts : List Expr} {tfs : List TF} {k : Nat} {p : Pos} (h : TGcs C f n ts tfs) : TGc C f n (.Tuple ts k p) (tgT tfs) := by
  refine ⟨?_⟩
  intro v le σ lo' σ' hv mF m od rest led A a ho l s Q E val M r q
  unfold tgT at hv
  split at hv <;> first | (cases hv; done) | skip
  split at hv <;> first | (cases hv; done) | skip
  rename_i k' vs e
  obtain ⟨x, its, m', rfl, h1, h2, h3, h4⟩ := tup_at M e r
  obtain ⟨l1, l2⟩ := h.len
  refine assign_Tuple_tuple a.handled h4 (by rw [l1, stores_len hv, h2.length]; simp) l2 fun h' hs => ?_
  exact storesC_ok h hv a ho l (M.ext hs) h2 fun m' od' led' h'' tk p M' ho' l' => q m' od' led' h'' tk p M' ho' l'
/-- the walk itself -/
theorem comp_walk {T : Tab} (ok : FmOk C f) (tk : TabOk C T) {sc : Scope} {xs frn : List Str} {fr : List Nat} (S : CompSt f sc xs frn fr) {t it elt : Expr} {ifs : List Expr} {pos : Pos} {tup : Bool} {tf : TF} {test : Option EFb} {ev : EF}
    (ht : ∀ D, TGc C (compFm f sc xs frn D) n t tf) (hif : ∀ D, TS C (compFm f sc xs frn D) n ifs test) (he : ∀ D, SE C (compFm f sc xs frn D) n elt ev)
    (hgo : (tup = false ∧ ∀ i v, letOwnedTupleGo t i v = pure ()) ∨ (tup = true ∧ (∃ elts k p, t = .Tuple elts k p) ∧ ∀ v le σ r, tf v le σ = some r → ∃ k, v = .ref k))
    {le : Le} {σ1 : St} {a : V} {q : St × List V} (h : compR T tup xs.length (cellNames sc.names).length fr tf test ev le a σ1 = some q)
    {mF m : Str → Option Value} {aux led : Led} {A : Around} (aok : AOk f n A) (lr : LeR f (ats led) m le) {s : Shared} {E : Value → Shared → Prop} {va : Value} (M : MemC C f mF aux led σ1 s.heap) (ra : VR (ats led) a va) {RR : Value → Addr → Result → Shared → Prop}
    (hRR : ∀ led' h' tk' D oC m' Da, ats led <+: ats led' → MemC C f mF ((D, oC) :: aux) led' (q.1 ++ [.list q.2]) h' → nsObj oC m' → VR (ats led') (.ref q.1.length) (.ref Da) → RR (.ref Da) D (.ok .next) { s with heap := h', toks := tk' }) :
    wpAny (model C.prog C.w) A (pyIter va) (fun iv s₂ => wpAny (model C.prog C.w) A (newList []) (fun acc s₃ => wpAny (model C.prog C.w) A (newFunctionEnv sc f.env.globals (closL f.env.cells sc.names []) [] f.env.qual none .none (some f.env)) (fun cenv s₄ =>
      codeAny (model C.prog C.w) A (.compStart (.ListComp elt [⟨t, it, ifs, 0⟩] sc pos) 0 iv acc { cenv with scope := relabel sc f.env }) (RR acc cenv.locals) s₄) E s₃) E s₂) E s := by
  unfold compR at h
  obtain ⟨⟨kd, len⟩, hkd, h⟩ := Option.bind_eq_some_iff.mp h
  dsimp only at h
  split at h <;> first | (cases h; done) | skip
  rename_i htl
  refine iter_start ok tk hkd ra M fun I oI h2 M2 st => ?_
  refine wpAny_newObj_type (newCompEnv ?_)
  dsimp only
  have hD : (h2.push { cls := .type "list", dict := none, data := .seq ([] : List Value).toArray }).objs.size = h2.objs.size + 1 := Heap.size_push ..
  have M3 := M2.auxNew { cls := .type "list", dict := none, data := .seq ([] : List Value).toArray } rfl
  have M4 := M3.auxNew { cls := .type "dict", data := .dict #[] } rfl
  have nsD : nsObj ({ cls := .type "dict", data := .dict #[] } : Obj) (fun _ => none) := by
    obtain ⟨o, g, ho⟩ := nsObj_of (Heap.Ns.new (h2.push { cls := .type "list", dict := none, data := .seq ([] : List Value).toArray }) (.type "dict"))
    rw [Heap.get?_push_size _ rfl] at g
    exact (Option.some.inj g) ▸ ho
  obtain ⟨led5, M5, p5, v5⟩ := push_cells sc.names M4
  generalize hDa : h2.objs.size = Da at *
  generalize hDd : (h2.push { cls := .type "list", dict := none, data := .seq ([] : List Value).toArray }).objs.size = D at *
  have hsz4 : ((h2.push { cls := .type "list", dict := none, data := .seq ([] : List Value).toArray }).push { cls := .type "dict", data := .dict #[] }).objs.size = D + 1 := by rw [Heap.size_push, hDd]
  rw [hsz4] at v5
  have l5 : LeR (compFm f sc xs frn D) (ats led5) (fun _ => none) (compLe le xs.length (cellNames sc.names).length fr σ1) := compLe_ok S lr p5 v5 fun _ => rfl
  have okc := compFm_ok ok S D
  have aokc : AOk (compFm f sc xs frn D) n A := ⟨aok.frames, aok.handled, aok.depth, aok.units⟩
  generalize hh5 : pushCells ((h2.push { cls := .type "list", dict := none, data := .seq ([] : List Value).toArray }).push { cls := .type "dict", data := .dict #[] }) sc.names = h5 at *
  have loop : codeAny (model C.prog C.w) A (.compLoop (.ListComp elt [⟨t, it, ifs, 0⟩] sc pos) 0 (.ref I) (.ref Da) (compFm f sc xs frn D).env) (RR (.ref Da) D) { s with heap := h5 } := by
    refine compLoop_any (fun k s' => ∃ lo σ m' led' oI oC ys vals e h' tk', s' = { s with heap := h', toks := tk' } ∧ compL T a kd len tf test ev k ⟨lo, (compLe le xs.length (cellNames sc.names).length fr σ1).cl⟩ σ ys = some q ∧ k ≤ len ∧ ats led5 <+: ats led' ∧ MemC C f mF ((D, oC) :: (Da, listOf (List.toArray vals) e) :: (I, oI) :: aux) led' σ h' ∧
      All2 (VR (ats led')) ys vals ∧ ys.length ≤ sizeLine ∧ ItSt kd va len (len - k) oI ∧ nsObj oC m' ∧ LeR (compFm f sc xs frn D) (ats led') m' ⟨lo, (compLe le xs.length (cellNames sc.names).length fr σ1).cl⟩) ?_ len
      ⟨_, _, _, led5, oI, _, [], [], 0, h5, s.toks, rfl, h, Nat.le_refl _, List.prefix_refl _, M5, trivial, Nat.zero_le _, by rw [Nat.sub_self]; exact st, nsD, l5⟩
    rintro k s' ⟨lo, σ, m', led', oI, oC, ys, vals, e, h', tk', rfl, hL, hkl, p', M', ry, zy, st', ns', l'⟩
    have R' : VR (ats led') a va := ra.mono (p5.trans p')
    have MI : MemC C f mF ((I, oI) :: (D, oC) :: (Da, listOf (List.toArray vals) e) :: aux) led' σ h' := M'.perm (((List.Perm.swap _ _ _).cons _).trans (List.Perm.swap _ _ _))
    cases k with
    | zero =>
      unfold compL at hL
      split at hL <;> first | (cases hL; done) | skip
      rename_i hkd'
      cases hL
      refine iter_end ok tk hkd' aok.handled R' MI (by simpa using st') fun h6 M6 => ?_
      have MD : MemC C f mF ((Da, listOf (List.toArray vals) e) :: (D, oC) :: aux) led' σ h6 := M6.perm (List.Perm.swap _ _ _)
      obtain ⟨led7, M7, p7, v7⟩ := MD.auxToLed (o := .list ys) ⟨vals, e, rfl, ry.imp fun _ _ => VR.mono (List.prefix_append _ _), zy⟩
      exact hRR led7 h6 _ D oC m' Da (p5.trans (p'.trans p7)) M7 ns' v7
    | succ k =>
      unfold compL at hL
      split at hL <;> first | (cases hL; done) | skip
      rename_i hkd'
      obtain ⟨v, hv, hL⟩ := Option.bind_eq_some_iff.mp hL
      obtain ⟨⟨lo1, σ2⟩, htf, hL⟩ := Option.bind_eq_some_iff.mp hL
      refine iter_item ok tk hkd' hv (by omega) R' MI st' fun oI' h6 tk6 val M6 st6 rv => ?_
      have ej : len - (k + 1) + 1 = len - k := by omega
      rw [ej] at st6
      have go : ∀ (Q' : Unit → Shared → Prop) (E' : Value → Shared → Prop), Q' () { s with heap := h6, toks := tk6 } → wpAny (model C.prog C.w) A (letOwnedTupleGo t (.ref I) val) Q' E' { s with heap := h6, toks := tk6 } := by
        intro Q' E' qq
        rcases hgo with ⟨_, g⟩ | ⟨g1, ⟨elts, k', p, rfl⟩, g3⟩
        · rw [g]; exact wpAny_pure qq
        · obtain ⟨k2, rfl⟩ := g3 _ _ _ _ htf
          obtain ⟨y, rfl, _⟩ := rv.ref_inv
          obtain ⟨z, rfl⟩ := kdOf_ref hkd' R'
          rcases htl with e | e
          · rw [g1] at e; cases e
          · subst e
            exact wpAny_letOwnedTupleGo_listiter (l := z) (i := len - k) ⟨_, M6.auxGet, st6.1, st6.2⟩ qq
      refine go _ _ ?_
      have M6' : MemC C f mF ((D, oC) :: (I, oI') :: (Da, listOf (List.toArray vals) e) :: aux) led' σ h6 := M6.perm (List.Perm.swap _ _ _)
      refine (ht D).p v ⟨lo, _⟩ σ lo1 σ2 htf mF m' oC ((I, oI') :: (Da, listOf (List.toArray vals) e) :: aux) led' A aokc ns' l' _ _ _ val M6' rv fun m7 oC7 led7 h7 tk7 p7 M7 ns7 l7 => ?_
      have tst : ∀ {Qt : Bool → Shared → Prop} {Et : Value → Shared → Prop}, (∀ b σ3 led8 h8 tk8, testE test ⟨lo1, (compLe le xs.length (cellNames sc.names).length fr σ1).cl⟩ σ2 = some (.ok b σ3) → ats led7 <+: ats led8 → MemC C f mF ((D, oC7) :: (I, oI') :: (Da, listOf (List.toArray vals) e) :: aux) led8 σ3 h8 → Qt b { s with heap := h8, toks := tk8 }) →
          (∃ b σ3, testE test ⟨lo1, (compLe le xs.length (cellNames sc.names).length fr σ1).cl⟩ σ2 = some (.ok b σ3)) →
          wpAny (model C.prog C.w) A (forIn ifs true fun c r => if r = true then do let ok ← isTrue c (compFm f sc xs frn D).env (eval c (compFm f sc xs frn D).env); pure (ForInStep.yield ok) else pure (ForInStep.yield r)) Qt Et { s with heap := h7, toks := tk7 } := by
        intro Qt Et hq hsome
        have hif := hif D
        match ifs, test, hif with
        | [], none, _ => exact wpAny_tests_nil (hq _ _ led7 h7 tk7 rfl (List.prefix_refl _) M7)
        | [c], some ec, hif =>
          obtain ⟨b, σ3, hb⟩ := hsome
          refine wpAny_tests_one ?_
          refine hif.p _ _ _ hb mF m7 _ led7 A aokc (.cp rfl ns7) l7 _ _ _ M7 ?_
          intro led8 h8 tk8 b8 p8 M8 R8
          have R8 : b = b8 := R8
          subst R8
          exact hq _ _ led8 h8 tk8 hb p8 M8
      cases htv : testE test ⟨lo1, (compLe le xs.length (cellNames sc.names).length fr σ1).cl⟩ σ2 with
      | none => rw [htv] at hL; cases hL
      | some rt =>
        cases rt with
        | exc => rw [htv] at hL; cases hL
        | ok bt σ3 =>
          refine tst (fun b σ3' led8 h8 tk8 hb p8 M8 => ?_) ⟨bt, σ3, htv⟩
          rw [htv] at hb; cases hb
          rw [htv] at hL
          cases bt with
          | false =>
            have M8' : MemC C f mF ((D, oC7) :: (Da, listOf (List.toArray vals) e) :: (I, oI') :: aux) led8 σ3 h8 := M8.perm ((List.Perm.swap _ _ _).cons _)
            exact ⟨k, Nat.lt_succ_self _, lo1, σ3, m7, led8, oI', oC7, ys, vals, e, h8, tk8, rfl, hL, by omega, p'.trans (p7.trans p8), M8', ry.imp fun _ _ => VR.mono (p7.trans p8), zy, st6, ns7, l7.mono p8⟩
          | true =>
            dsimp only at hL
            cases hev : ev ⟨lo1, (compLe le xs.length (cellNames sc.names).length fr σ1).cl⟩ σ3 with
            | none => rw [hev] at hL; cases hL
            | some re =>
              cases re with
              | exc => rw [hev] at hL; cases hL
              | ok y σ4 =>
                rw [hev] at hL
                dsimp only at hL
                split at hL <;> first | (cases hL; done) | skip
                rename_i hyl
                rw [if_pos rfl]
                refine (he D).p _ σ3 _ hev mF m7 _ led8 A aokc (.cp rfl ns7) (l7.mono p8) _ _ _ M8 ?_
                intro led9 h9 tk9 val9 p9 M9 R9
                have M9' : MemC C f mF ((Da, listOf (List.toArray vals) e) :: (D, oC7) :: (I, oI') :: aux) led9 σ4 h9 := M9.perm (((List.Perm.swap _ _ _).cons _).trans (List.Perm.swap _ _ _))
                have lv := ry.length
                refine append_at (hsz := by rw [List.size_toArray, ← lv]; exact zy) M9'.auxGet fun h10 hs10 g10 => ?_
                have M10 := M9'.auxHead (o' := listOf (List.toArray (vals ++ [val9])) (e + 1)) hs10 (by rw [g10]; simp)
                have M11 : MemC C f mF ((D, oC7) :: (Da, listOf (List.toArray (vals ++ [val9])) (e + 1)) :: (I, oI') :: aux) led9 σ4 h10 := M10.perm (List.Perm.swap _ _ _)
                exact ⟨k, Nat.lt_succ_self _, lo1, σ4, m7, led9, oI', oC7, ys ++ [y], vals ++ [val9], e + 1, h10, tk9, rfl, hL, by omega, p'.trans (p7.trans (p8.trans p9)), M11,
                  (ry.imp fun _ _ => VR.mono (p7.trans (p8.trans p9))).append ⟨R9, trivial⟩, by rw [sizeLine_is]; simp; omega, st6, ns7, l7.mono (p8.trans p9)⟩
  exact codeAny_compStart_list loop (iter_self (M5.perm (((List.Perm.swap _ _ _).cons _).trans (List.Perm.swap _ _ _))) st (kdOf_ref hkd ra) loop)
end
end Mine

end
section
open PySem PySem.W PyProof.Rows PySem.Calls PySem.Spec PyProof.V PySem.SeqAt
set_option linter.unusedSimpArgs false
set_option linter.unusedVariables false
set_option autoImplicit false
set_option Elab.async false
namespace Mine
def asgK (T : Tab) (i : Nat) (tup : Bool) (it : EF) (nl no : Nat) (fr : List Nat) (tf : TF) (test : Option EFb) (elt : EF) : SF := fun le σ => bindE le.lo (it le σ) fun a σ1 => (compR T tup nl no fr tf test elt le a σ1).map fun q => .ok .next (setLo i (.ref q.1.length) le.lo) (q.1 ++ [.list q.2])
section
variable {C : Ctx} {f : Fm} {n : Nat}
theorem CompSt.clos (ok : FmOk C f) {sc : Scope} {xs frn : List Str} {fr : List Nat} (S : CompSt f sc xs frn fr) {ρ : List Addr} {m : Str → Option Value} {le : Le} (l : LeR f ρ m le) : closureFor sc f.env = pure (closL f.env.cells sc.names []) :=
  closureFor_is fun x hx hk => by
    obtain ⟨j, hj⟩ := List.getElem?_of_mem (S.fre x hx hk)
    obtain ⟨k, _, a, ha, _⟩ := l.cl.get hj
    exact ⟨a, ha⟩
theorem se_comp {T : Tab} (ok : FmOk C f) (tk : TabOk C T) {sc : Scope} {xs frn : List Str} {fr : List Nat} (S : CompSt f sc xs frn fr) {t it elt : Expr} {ifs : List Expr} {pos : Pos} {tup : Bool} {no : Nat} {ei : EF} {tf : TF} {test : Option EFb} {ev : EF}
    (hi : SE C f n it ei) (ht : ∀ D, TGc C (compFm f sc xs frn D) n t tf) (hif : ∀ D, TS C (compFm f sc xs frn D) n ifs test) (he : ∀ D, SE C (compFm f sc xs frn D) n elt ev) (hno : (cellNames sc.names).length = no)
    (hgo : (tup = false ∧ ∀ i v, letOwnedTupleGo t i v = pure ()) ∨ (tup = true ∧ (∃ elts k p, t = .Tuple elts k p) ∧ ∀ v le σ r, tf v le σ = some r → ∃ k, v = .ref k))
    (hs : ∀ x, foldedSetIterable it f.env x = pure x) : SE C f n (.ListComp elt [⟨t, it, ifs, 0⟩] sc pos) (compE T tup ei xs.length no fr tf test ev) := by
  subst hno
  refine ⟨?_⟩
  intro le σ r h mF m aux led A a lc lr s Q E M P
  rw [eval_ListComp]
  refine wpAny_comprehension_free (use := none) rfl hs (S.clos ok lr) S.kind S.nameL (compose h (fun r1 q => hi.p le σ r1 q mF m aux led A a lc lr) M P fun x σ1 led1 hp1 tk1 b hk p1 M1 R1 P1 => ?_)
  obtain ⟨q, hq, rfl⟩ := Option.map_eq_some_iff.mp hk
  refine comp_walk (RR := fun acc D => compPost (model C.prog C.w) A E none Q acc D) ok tk S ht hif he hgo hq a (lr.mono p1) M1 R1 fun led' h' tk' D oC m' Da p' M' ns' v' => ?_
  refine ⟨m', nsObj_ns M'.auxGet ns', fun h'' hs'' => ?_⟩
  exact P1 led' h'' tk' _ p' (M'.auxDrop hs''.extBut) v'
theorem ss_asgK {T : Tab} (ok : FmOk C f) (tk : TabOk C T) {sc : Scope} {xs frn : List Str} {fr : List Nat} (S : CompSt f sc xs frn fr) {t it elt : Expr} {ifs : List Expr} {pos spos py : Pos} {y : Str} {i : Nat} {tup : Bool} {no : Nat} {ei : EF} {tf : TF} {test : Option EFb} {ev : EF} (hy : f.xs[i]? = some y)
    (hi : SE C f n it ei) (ht : ∀ D, TGc C (compFm f sc xs frn D) n t tf) (hif : ∀ D, TS C (compFm f sc xs frn D) n ifs test) (he : ∀ D, SE C (compFm f sc xs frn D) n elt ev) (hno : (cellNames sc.names).length = no)
    (hgo : (tup = false ∧ ∀ i v, letOwnedTupleGo t i v = pure ()) ∨ (tup = true ∧ (∃ elts k p, t = .Tuple elts k p) ∧ ∀ v le σ r, tf v le σ = some r → ∃ k, v = .ref k))
    (hs : ∀ x, foldedSetIterable it f.env x = pure x)
    (hsw : swapsWith (.ListComp elt [⟨t, it, ifs, 0⟩] sc pos) (some (.Name y py)) spos.line f.env = pure true) :
    SS C f n (.Assign [.Name y py] (.ListComp elt [⟨t, it, ifs, 0⟩] sc pos) spos) (asgK T i tup ei xs.length no fr tf test ev) := by
  subst hno
  refine ⟨?_⟩
  intro le σ r h m aux led A a hl l s Q E M P
  rw [exec_Assign_Name_used _ _ _ _ hsw]
  refine wpAny_bind (wpAny_standAt (wpAny_bind ?_))
  show wpAny _ A (do let _ ← comprehension (.ListComp elt [⟨t, it, ifs, 0⟩] sc pos) sc f.env _ (newList []) false (eval it f.env) (some (assign (.Name y py) f.env))) _ _ s
  refine wpAny_bind (wpAny_mono (wpAny_comprehension_free (use := some (assign (.Name y py) f.env)) (Q := fun _ s' => Q .next s') rfl hs (S.clos ok l) S.kind S.nameL
    (stepE h (fun r1 q => hi.p le σ r1 q) a hl l M P fun x σ1 led1 hp1 tk1 b hk p1 M1 R1 l1 P1 => ?_)) (fun _ s' hq => wpAny_pure (wpAny_pure hq)) fun _ _ e => e)
  obtain ⟨q, hq, rfl⟩ := Option.map_eq_some_iff.mp hk
  refine comp_walk (RR := fun acc D => compPost (model C.prog C.w) A E (some (assign (.Name y py) f.env)) (fun _ s' => Q .next s') acc D) ok tk S ht hif he hgo hq a l1 M1 R1 fun led' h' tk' D oC m' Da p' M' ns' v' => ?_
  show wpAny _ A (assign (.Name y py) f.env (.ref Da)) _ _ _
  refine wpAny_assign_Name (store_local ok hy hl (l1.mono p') M' v' fun h2 m2 M2 l2 => ?_)
  refine ⟨m', nsObj_ns M2.auxGet ns', fun h'' hs'' => ?_⟩
  exact P1 m2 led' h'' _ _ p' (M2.auxDrop hs''.extBut) l2 (by trivial)
end
end Mine

end
section
open PySem PySem.W PyProof.Rows PySem.Calls PySem.Spec PyProof.V PySem.SeqAt
set_option linter.unusedSimpArgs false
set_option linter.unusedVariables false
set_option autoImplicit false
set_option Elab.async false
namespace Mine
/-! ## calls of the text's own functions -/
/-- what a body's end gives -/
def retR : Option Rt → Option (Rs V)
  | some (.ok (.ret v) _ σ) => some (.ok v σ)
  | some (.ok .next _ σ) => some (.ok .none σ)
  | some (.exc x _ σ) => some (.exc x σ)
  | _ => none
/-- a function at work: where its locals and its cells come from -/
def runF (full : List V → Option (List V)) (pl pc : List (Option Nat)) (body : SF) (args : List V) (σ : St) : Option (Rs V) :=
  (full args).bind fun fa => retR (body ⟨pl.map fun o => o.bind fun i => fa[i]?, (List.range pc.length).map (σ.length + ·)⟩ (σ ++ pc.map fun o => .cell (o.bind fun i => fa[i]?)))
def csOf (sc : Scope) : List Str := (cellsFrom 0 sc.names []).map (·.1)
/-- the function's record and its names -/
structure FnOk (C : Ctx) (a : Addr) (ps xs : List Str) (pl pc : List (Option Nat)) (argsOf : List Value → Args) (full : List V → Option (List V)) (qual : Str) (sc : Scope) (cdv : Value) (body : List Stmt) : Prop where
  rec_ : ∃ (name : Str) (params : Arguments) (dV kV doc pm : Value) (an : Option Addr) (ct oc : Value) (od : Option Addr) (osl : Array (Option Value)), C.K.lookup a = some ⟨oc, od, .func (fnX name qual params body sc [] dV kV doc pm an cdv ct), osl⟩ ∧
    ∀ (s : Shared) (ρ : List Addr) (args : List V) (vals : List Value) (fa : List V), C.K.In s.heap → full args = some fa → All2 (VR ρ) args vals →
      ∃ fv, All2 (VR ρ) fa fv ∧ fa.length = ps.length ∧ BindsTo s (fnX name qual params body sc [] dV kV doc pm an cdv ct) (argsOf vals) (ps.zip fv)
  code : codeIn C.K cdv qual = true
  kinds : ∀ x ∈ ps, sc.names.lookup x = some .local ∨ (sc.names.lookup x = some .cell ∧ x ∈ csOf sc)
  nd : (csOf sc).Nodup
  pl_ : ∀ fv : List Value, fv.length = ps.length → All2 (fun x o => bindL (fun y => sc.names.lookup y) (ps.zip fv) (fun _ => none) x = o.bind fun i => fv[i]?) xs pl
  pc_ : ∀ fv : List Value, fv.length = ps.length → All2 (fun x o => bindC (fun y => sc.names.lookup y) (ps.zip fv) (fun _ => none) x = o.bind fun i => fv[i]?) (csOf sc) pc
  co : sc.isCoroutine = false
  gen : sc.isGenerator = false
  kind : sc.kind = .function
  xl : ∀ x ∈ xs, sc.names.lookup x = some .local
  xn : xs.Nodup
  cl : ∀ x ∈ csOf sc, sc.names.lookup x = some .cell
  hid : ∀ x ∈ xs ++ csOf sc, (x == ("__debug__" : Str)) = false
def fnFm0 (outer : List Env) (base : Heap) (qual : Str) (sc : Scope) (L a : Addr) (cdv : Value) (g : Heap) (A : Around) (xs : List Str) : Fm :=
  { env := envOfC qual sc L a cdv, fenv := envOfC qual sc L a cdv, L := L, outer := outer, h₀ := g, base := base, A₀ := A, xs := xs, cs := csOf sc }
abbrev fnFm (f : Fm) (qual : Str) (sc : Scope) (L a : Addr) (cdv : Value) (g : Heap) (A : Around) (xs : List Str) : Fm := fnFm0 (f.fenv :: f.outer) f.base qual sc L a cdv g A xs
theorem cellsFrom_ge : ∀ {names : List (Str × NameKind)} {n : Nat} {acc : List (Str × Addr)} {p : Str × Addr}, p ∈ cellsFrom n names acc → p ∈ acc ∨ n ≤ p.2
  | [], _, _, _, h => .inl h
  | (y, k) :: r, n, acc, p, h => by
    unfold cellsFrom at h
    split at h
    · rcases cellsFrom_ge h with q | q
      · rcases List.mem_cons.mp q with rfl | q
        · exact .inr (Nat.le_refl _)
        · exact .inl q
      · exact .inr (Nat.le_of_succ_le q)
    · exact cellsFrom_ge h
theorem cellsFrom_apart : ∀ {names : List (Str × NameKind)} {n : Nat} {acc : List (Str × Addr)}, (acc.map (·.2)).Nodup → (∀ p ∈ acc, p.2 < n) → ((cellsFrom n names acc).map (·.2)).Nodup
  | [], _, _, h, _ => h
  | (y, k) :: r, n, acc, h, lt => by
    unfold cellsFrom
    split
    · refine cellsFrom_apart ?_ ?_
      · rw [List.map_cons, List.nodup_cons]
        refine ⟨fun hm => ?_, h⟩
        obtain ⟨p, hp, e⟩ := List.mem_map.mp hm
        have := lt p hp
        rw [e] at this
        exact Nat.lt_irrefl _ this
      · intro p hp
        rcases List.mem_cons.mp hp with rfl | hp
        · exact Nat.lt_succ_self _
        · exact Nat.lt_succ_of_lt (lt p hp)
    · exact cellsFrom_apart h lt
theorem cellsAre_keys {cm : Str → Option Value} : ∀ {cs : List (Str × Addr)} {cells : List (Addr × Obj)}, CellsAre cm cs cells → cells.map (·.1) = cs.map (·.2)
  | _, _, .nil => rfl
  | _, _, .cons _ h => by rw [List.map_cons, List.map_cons, cellsAre_keys h]
theorem cellsAre_get {cm : Str → Option Value} : ∀ {cs : List (Str × Addr)} {cells : List (Addr × Obj)}, CellsAre cm cs cells → ∀ {i : Nat} {p : Str × Addr}, cs[i]? = some p → ∃ o, cells[i]? = some (p.2, o) ∧ o.data = .cell (cm p.1)
  | _, _, .nil, _, _, h => by simp at h
  | _, _, .cons (n := n) (c := c) (o := o) hd t, 0, p, h => by simp at h; subst h; exact ⟨o, rfl, hd⟩
  | _, _, .cons _ t, i + 1, p, h => by
    have := cellsAre_get t (i := i) (p := p) (by simpa using h)
    simpa using this
section
variable {C : Ctx}
/-- an exception that leaves an activation (filled in elsewhere) -/
theorem RaisedAt.leave {f : Fm} {n : Nat} {qual : Str} {sc : Scope} {L a : Addr} {cdv : Value} {g : Heap} {A : Around} {xs : List Str} {m : Str → Option Value} {aux led : Led} {σ : St} {x : X} {e : Addr} {s : Shared} {mF : Str → Option Value} (aok : AOk f n A) (ok : FmOk C f) (F : Fr f.h₀ f.L g mF)
    (hR : RaisedAt C (fnFm f qual sc L a cdv g A xs) m aux led σ x e s.heap) {Rr : Result → Shared → Prop} (h : ∀ h' tk, RaisedAt C f mF aux led σ x e h' → Rr (.error (.ref e)) { s with heap := h', toks := tk }) :
    wpAny (model C.prog C.w) (A.deeper (envOfC qual sc L a cdv)) (leaving (envOfC qual sc L a cdv) (.ref e)) (fun _ s'' => Rr (.error (.ref e)) s'') (fun e' s'' => Rr (.error e') s'') s := hR.elim
theorem fn_ok {f : Fm} {n : Nat} (ok : FmOk C f) {a : Addr} {ps xs : List Str} {pl pc : List (Option Nat)} {argsOf : List Value → Args} {full : List V → Option (List V)} {qual : Str} {sc : Scope} {cdv : Value} {body : List Stmt} (F : FnOk C a ps xs pl pc argsOf full qual sc cdv body)
    {ev : SF} (hb : ∀ L g A, FmOk C (fnFm f qual sc L a cdv g A xs) → SL C (fnFm f qual sc L a cdv g A xs) n body ev) {args : List V} {σ : St} {r : Rs V} (h : runF full pl pc ev args σ = some r)
    {A : Around} (aok : AOk f (n + 1) A) {mF : Str → Option Value} {aux led : Led} {vals : List Value} (rv : All2 (VR (ats led)) args vals) : DoesC C f A mF aux led σ (.call (.ref a) (argsOf vals)) r := by
  intro s Rr M P
  obtain ⟨fa, hfa, h⟩ := Option.bind_eq_some_iff.mp h
  obtain ⟨name, params, dV, kV, doc, pm, an, ct, oc, od, osl, hl, hbind⟩ := F.rec_
  have X : C.K.In s.heap := ok.X.keeps M.fr.keep
  obtain ⟨fv, rfv, lfa, hbt⟩ := hbind s (ats led) args vals fa X hfa rv
  have lfv : fv.length = ps.length := by rw [← rfv.length]; exact lfa
  have nm0 : ∀ n, (cellsFrom n sc.names []).map (·.1) = csOf sc := fun n => cellsFrom_names sc.names n 0 [] [] rfl
  refine callX_cells ok.below M.fr M.nw ok.nolimit aok.frames ok.frame ok.kind (X _ _ hl) rfl (codeRec_of X F.code) aok.room hbt (fun n' y hy => ?_) F.nd ?_ F.co F.gen F.kind
  · have hy1 : y.1 ∈ ps := (List.of_mem_zip hy).1
    rcases F.kinds _ hy1 with q | ⟨q, q2⟩
    · exact .inl q
    · refine .inr ⟨q, ?_⟩
      rw [← nm0 n'] at q2
      obtain ⟨p, hp, e⟩ := List.mem_map.mp q2
      have nd' : ((cellsFrom n' sc.names []).map (·.1)).Nodup := by rw [nm0]; exact F.nd
      have := lookup_of_mem_nodup nd' (n := p.1) (c := p.2) hp
      rw [← e, this]; rfl
  · intro g L' h₁ tk cells Fg F' N' Y B' st lt
    have okf : FmOk C (fnFm f qual sc L' a cdv g A xs) := {
      X := ok.X.keeps Fg.keep, g := ok.g.keeps Fg.keep, b := ok.b.keeps Fg.keep, nolimit := ok.nolimit.keeps Fg.keep, mods := by obtain ⟨o, ho⟩ := ok.mods; exact ⟨o, Fg.keep _ _ ho⟩, scr := fun a ns e => by (obtain ⟨its, ⟨o, h1, h2⟩, h3⟩ := ok.scr a ns e; exact ⟨its, ⟨o, Fg.keep _ _ h1, h2⟩, h3⟩),
      below := B', frame := rfl, kind := F.kind, eframe := rfl, ekind := F.kind, eglob := rfl, ebi := rfl, xl := F.xl, xn := F.xn, cl := F.cl, hid := F.hid }
    have aokf : AOk (fnFm f qual sc L' a cdv g A xs) n (A.deeper (envOfC qual sc L' a cdv)) := by
      refine ⟨?_, aok.handled, ?_, ?_⟩
      · show A.frames.map _ = _; rw [aok.frames]; rfl
      · have := aok.depth; show A.depth + 1 + 2 * n < _; omega
      · have := aok.units; show A.units + 3 + 16 * n + 200 ≤ 9900; omega
    have keys : cells.map (·.1) = (cellsFrom (L' + 1) sc.names []).map (·.2) := cellsAre_keys Y
    have lc : cells.length = (csOf sc).length := by
      have : (cells.map (·.1)).length = ((cellsFrom (L' + 1) sc.names []).map (·.1)).length := by rw [keys, List.length_map, List.length_map]
      rw [nm0, List.length_map] at this
      exact this
    have lpc : pc.length = (csOf sc).length := ((F.pc_ fv lfv).length).symm
    have ek : ats (led ++ cells) = ats led ++ cells.map (·.1) := by show List.map _ _ = _; rw [List.map_append]; rfl
    have pr : ats led <+: ats (led ++ cells) := ek ▸ List.prefix_append _ _
    have ll : led.length = σ.length := M.rel.length
    have M1 : MemC C (fnFm f qual sc L' a cdv g A xs) (bindL (fun y => sc.names.lookup y) (ps.zip fv) (fun _ => none)) aux (led ++ cells) (σ ++ pc.map fun o => .cell (o.bind fun i => fa[i]?)) h₁ := by
      refine ⟨F', fun p hp => N' p ?_, ?_, ?_⟩
      · simp only [List.mem_append] at hp ⊢
        rcases hp with (h | h) | h <;> simp [h]
      · have nd := M.nd
        rw [List.map_append] at nd
        rw [List.map_append, List.map_append, List.nodup_append, List.nodup_append]
        rw [List.nodup_append] at nd
        have ndc : (cells.map (·.1)).Nodup := by rw [keys]; exact cellsFrom_apart .nil (fun _ h => (nomatch h))
        have big : ∀ c ∈ cells.map (·.1), L' < c := by
          intro c hc
          rw [keys] at hc
          obtain ⟨p, hp, rfl⟩ := List.mem_map.mp hc
          rcases cellsFrom_ge hp with q | q
          · cases q
          · exact q
        have sm : ∀ c ∈ (led ++ aux).map (·.1), c < L' := by
          intro c hc
          obtain ⟨p, hp, rfl⟩ := List.mem_map.mp hc
          exact lt p hp
        refine ⟨⟨nd.1, ndc, fun x hx y hy e => ?_⟩, nd.2.1, fun x hx y hy e => ?_⟩
        · subst e
          exact absurd (big _ hy) (Nat.not_lt.mpr (Nat.le_of_lt (sm _ (by rw [List.map_append]; exact List.mem_append_left _ hx))))
        · subst e
          rcases List.mem_append.mp hx with hx | hx
          · exact nd.2.2 _ hx _ hy rfl
          · exact absurd (big _ hx) (Nat.not_lt.mpr (Nat.le_of_lt (sm _ (by rw [List.map_append]; exact List.mem_append_right _ hy))))
      · refine (M.rel.imp fun _ _ r => r.mono pr).append (All2.of_get (by rw [List.length_map, lc, lpc]) fun i p o hp ho => ?_)
        rw [List.getElem?_map] at ho
        obtain ⟨q, hq, rfl⟩ := Option.map_eq_some_iff.mp ho
        have hi : i < (csOf sc).length := by rw [← lpc]; exact (List.getElem?_eq_some_iff.mp hq).1
        have hi' : i < (cellsFrom (L' + 1) sc.names []).length := by
          have := congrArg List.length (nm0 (L' + 1)); rw [List.length_map] at this; omega
        obtain ⟨ob, g1, g2⟩ := cellsAre_get Y (i := i) (p := (cellsFrom (L' + 1) sc.names [])[i]) (List.getElem?_eq_getElem hi')
        rw [hp] at g1; cases g1
        have hx : (csOf sc)[i]? = some (cellsFrom (L' + 1) sc.names [])[i].1 := by rw [← nm0 (L' + 1), List.getElem?_map, List.getElem?_eq_getElem hi']; rfl
        obtain ⟨q', hq', e⟩ := (F.pc_ fv lfv).get hx
        rw [hq] at hq'; cases hq'
        refine ⟨_, g2, ?_⟩
        show OptR _ _ (bindC (fun y => sc.names.lookup y) (ps.zip fv) (fun _ => none) _)
        rw [e]
        cases q with
        | none => trivial
        | some j =>
          show OptR _ (fa[j]?) (fv[j]?)
          cases hfj : fa[j]? with
          | none =>
            have : fv[j]? = none := by
              rw [List.getElem?_eq_none_iff] at hfj ⊢
              rw [← rfv.length]; exact hfj
            rw [this]; trivial
          | some v =>
            obtain ⟨w, hw, rw_⟩ := rfv.get hfj
            rw [hw]
            exact rw_.mono pr
    have l1 : LeR (fnFm f qual sc L' a cdv g A xs) (ats (led ++ cells)) (bindL (fun y => sc.names.lookup y) (ps.zip fv) (fun _ => none)) ⟨pl.map fun o => o.bind fun i => fa[i]?, (List.range pc.length).map (σ.length + ·)⟩ := by
      refine ⟨?_, ?_⟩
      · have hpl := F.pl_ fv lfv
        refine All2.of_get (by rw [List.length_map]; exact hpl.length) fun i x o hx ho => ?_
        rw [List.getElem?_map] at ho
        obtain ⟨q, hq, rfl⟩ := Option.map_eq_some_iff.mp ho
        obtain ⟨q', hq', e⟩ := hpl.get hx
        rw [hq] at hq'; cases hq'
        rw [e]
        cases q with
        | none => trivial
        | some j =>
          show OptR _ (fa[j]?) (fv[j]?)
          cases hfj : fa[j]? with
          | none =>
            have : fv[j]? = none := by
              rw [List.getElem?_eq_none_iff] at hfj ⊢
              rw [← rfv.length]; exact hfj
            rw [this]; trivial
          | some v =>
            obtain ⟨w, hw, rw_⟩ := rfv.get hfj
            rw [hw]
            exact rw_.mono pr
      · show All2 _ (csOf sc) _
        refine All2.of_get (by simp [lpc]) fun i x k hx hk => ?_
        rw [List.getElem?_map] at hk
        obtain ⟨j, hj, rfl⟩ := Option.map_eq_some_iff.mp hk
        have ltj := (List.getElem?_eq_some_iff.mp hj).1
        rw [List.length_range] at ltj
        rw [List.getElem?_range ltj] at hj
        cases hj
        have hi' : i < (cellsFrom (L' + 1) sc.names []).length := by
          have := congrArg List.length (nm0 (L' + 1)); rw [List.length_map] at this; omega
        have hx' : (csOf sc)[i]? = some (cellsFrom (L' + 1) sc.names [])[i].1 := by rw [← nm0 (L' + 1), List.getElem?_map, List.getElem?_eq_getElem hi']; rfl
        rw [hx] at hx'; cases hx'
        obtain ⟨ob, g1, g2⟩ := cellsAre_get Y (i := i) (p := (cellsFrom (L' + 1) sc.names [])[i]) (List.getElem?_eq_getElem hi')
        refine ⟨(cellsFrom (L' + 1) sc.names [])[i].2, ?_, ?_⟩
        · have nd' : ((cellsFrom (L' + 1) sc.names []).map (·.1)).Nodup := by rw [nm0]; exact F.nd
          exact lookup_of_mem_nodup nd' (List.getElem_mem hi')
        · rw [ek, List.getElem?_append_right (by show (List.map _ _).length ≤ _; rw [List.length_map]; omega)]
          have : σ.length + i - (ats led).length = i := by show σ.length + i - (List.map _ _).length = i; rw [List.length_map]; omega
          rw [this, List.getElem?_map, g1]; rfl
    -- the body
    cases hbv : ev ⟨pl.map fun o => o.bind fun i => fa[i]?, (List.range pc.length).map (σ.length + ·)⟩ (σ ++ pc.map fun o => .cell (o.bind fun i => fa[i]?)) with
    | none => rw [hbv] at h; cases h
    | some rb =>
      rw [hbv] at h
      refine (hb L' g A okf).p _ _ rb hbv _ aux (led ++ cells) _ aokf rfl l1 _ _ _ M1 ?_
      have back : ∀ {v : V} {σ' : St} {m' : Str → Option Value} {led' : Led} {h' : Heap} {tk' : Nat} {val : Value}, r = .ok v σ' → ats (led ++ cells) <+: ats led' → MemC C (fnFm f qual sc L' a cdv g A xs) m' aux led' σ' h' → VR (ats led') v val → LeaveK f.h₀ f.L mF g Rr val { s with heap := h', toks := tk' } := by
        intro v σ' m' led' h' tk' val hr p' M' R'
        subst hr
        exact leaveK_ M'.fr M'.nw fun F2 N2 => P led' h' tk' val (pr.trans p') ⟨F2, N2, M'.nd, M'.rel⟩ R'
      cases rb with
      | exc x lo σ' =>
        cases h
        intro m' led' h' tk' e p' l' hR
        refine RaisedAt.leave (f := f) (qual := qual) (sc := sc) (L := L') (a := a) (cdv := cdv) (g := g) (A := A) (xs := xs) (m := m') (aux := aux) (led := led') (σ := σ') (x := x) (e := e) (mF := mF) (s := { s with heap := h', toks := tk' }) (aok.le (Nat.le_succ n)) ok Fg hR fun h'' tk'' hR' => ?_
        exact P led' h'' tk'' e (pr.trans p') hR'
      | ok fl lo σ' =>
        cases fl with
        | next =>
          cases h
          intro m' led' h' tk' flv p' M' l' hf
          obtain rfl := hf.next_inv
          exact back rfl p' M' trivial
        | ret v =>
          cases h
          intro m' led' h' tk' flv p' M' l' hf
          obtain ⟨w, rfl, rw_⟩ := hf.ret_inv
          exact back rfl p' M' rw_
        | brk => cases h
        | cont => cases h
end
end Mine

end
section
open PySem PySem.W PyProof.Rows PySem.Calls PySem.Spec PyProof.V PySem.SeqAt
set_option linter.unusedSimpArgs false
set_option linter.unusedVariables false
set_option autoImplicit false
set_option Elab.async false
namespace Mine
/-! ## sorted, for pairs of numbers -/
def evT {α : Type} (lt : Nat → Nat → Bool) : KasT α → α
  | .ret a => a
  | .ask i j k => evT lt (k (lt i j))
def evOk {α : Type} (n : Nat) (lt : Nat → Nat → Bool) : KasT α → Bool
  | .ret _ => true
  | .ask i j k => decide (i < n) && decide (j < n) && evOk n lt (k (lt i j))
def pairsV (σ : St) : List V → Option (List (Int × Int))
  | [] => some []
  | .ref k :: r => match σ[k]? with
    | some (.tup [.int a, .int b]) => (pairsV σ r).map ((a, b) :: ·)
    | _ => none
  | _ :: _ => none
def lexLt (p q : Int × Int) : Bool := if p.1 == q.1 then decide (p.2 < q.2) else decide (p.1 < q.1)
def pairLt (ps : List (Int × Int)) (i j : Nat) : Bool := lexLt (ps.getD i (0, 0)) (ps.getD j (0, 0))
def sortOrd (ps : List (Int × Int)) : List Nat := (evT (pairLt ps) (kas_sort ps.length)).toList
def sortV2 (vs : List V) (σ : St) : Option (Rs V) := match vs with
  | [.ref k] => match σ[k]? with
    | some (.list us) => match intsV us with
      | some _ => sortV vs σ
      | none => (pairsV σ us).bind fun ps => if 2 ≤ ps.length ∧ ps.length < 64 ∧ (sortOrd ps).length ≤ 64 ∧ evOk ps.length (pairLt ps) (kas_sort ps.length) = true then some (.ok (.ref σ.length) (σ ++ [.list ((sortOrd ps).map fun i => us.getD i .none)])) else none
    | _ => none
  | _ => none
section
variable {C : Ctx} {f : Fm} {n : Nat}
theorem kas_evalI {α : Type} {lt : Nat → Nat → Bool} {n : Nat} {cmp : Nat → Nat → (Bool → Shared → Prop) → Shared → Prop} {s : Shared} (hc : ∀ i j (K : Bool → Shared → Prop), i < n → j < n → K (lt i j) s → cmp i j K s) {Q : α → Shared → Prop} : ∀ t : KasT α, evOk n lt t = true → Q (evT lt t) s → t.kasWp cmp Q s
  | .ret a, _, h => h
  | .ask i j k, q, h => by
    unfold evOk at q
    rw [Bool.and_eq_true, Bool.and_eq_true] at q
    exact hc i j _ (of_decide_eq_true q.1.1) (of_decide_eq_true q.1.2) (kas_evalI hc (k (lt i j)) q.2 h)
/-- the pairs lie in the heap -/
theorem pairs_at {mF aux led σ} {h : Heap} (M : MemC C f mF aux led σ h) : ∀ {us : List V} {ps : List (Int × Int)} {its : List Value}, pairsV σ us = some ps → All2 (VR (ats led)) us its →
    ps.length = its.length ∧ (∃ fs, KatTups h its fs ∧ fs.length = its.length ∧ ∀ v ∈ fs, ∃ i t, v = Value.int i t) ∧ ∀ i : Nat, i < ps.length → ∃ x o nn t u, its[i]? = some (.ref x) ∧ h.get? x = some o ∧ o.data = .seq #[.int (ps.getD i (0, 0)).1 t, .int (ps.getD i (0, 0)).2 u] nn
  | [], _, _, h, r => by cases h; rw [r.nil_inv]; exact ⟨rfl, ⟨[], .nil, rfl, fun v hv => (nomatch hv)⟩, fun i hi => absurd hi (Nat.not_lt_zero _)⟩
  | .ref k :: us, ps, its, hp, r => by
    obtain ⟨b, its', rfl, h1, h2⟩ := r.cons_inv
    simp only [pairsV] at hp
    split at hp <;> first | (cases hp; done) | skip
    rename_i a c e
    obtain ⟨ps', hps, rfl⟩ := Option.map_eq_some_iff.mp hp
    obtain ⟨i1, ⟨fs, k1, k2, k3⟩, i3⟩ := pairs_at M hps h2
    obtain ⟨x, jts, m, rfl, g1, g2, g3, g4⟩ := tup_at M e h1
    obtain ⟨v1, jts', rfl, q1, q2⟩ := g2.cons_inv
    obtain ⟨v2, jts'', rfl, q3, q4⟩ := q2.cons_inv
    obtain rfl := q4.nil_inv
    obtain ⟨t, rfl⟩ := q1.int_inv
    obtain ⟨u, rfl⟩ := q3.int_inv
    have gx := M.get g1
    refine ⟨by simp [i1], ⟨Value.int a t :: fs, KatTups.cons gx rfl rfl rfl k1, by simp [k2], fun v hv => ?_⟩, fun i hi => ?_⟩
    · rcases List.mem_cons.mp hv with rfl | hv
      · exact ⟨_, _, rfl⟩
      · exact k3 v hv
    · cases i with
      | zero => exact ⟨x, _, m, t, u, rfl, gx, rfl⟩
      | succ i =>
        obtain ⟨x', o, nn, t', u', z1, z2, z3⟩ := i3 i (by simpa using hi)
        exact ⟨x', o, nn, t', u', by simpa using z1, z2, by simpa using z3⟩
  | .none :: _, _, _, h, _ | .bool _ :: _, _, _, h, _ | .int _ :: _, _, _, h, _ | .glob _ :: _, _, _, h, _ | .bi _ :: _, _, _, h, _ | .ty _ :: _, _, _, h, _ => by cases h
theorem pair_lt {A : Around} {s : Shared} {x y : Addr} {ox oy : Obj} {a b c d : Int} {t u v w : Tok} {m k : Nat} {Q : Bool → Shared → Prop} {E : Value → Shared → Prop} (hx : s.heap.get? x = some ox) (dx : ox.data = .seq #[.int a t, .int b u] m) (hy : s.heap.get? y = some oy) (dy : oy.data = .seq #[.int c v, .int d w] k)
    (h : Q (lexLt (a, b) (c, d)) s) : wpAny (model C.prog C.w) A (keyLt' (tuples' true) (.ref x) (.ref y)) Q E s := by
  refine kat_lt hx dx hy dy ?_
  show KatLex _ _ A true _ Q [(.int a t, .int c v), (.int b u, .int d w)] 0 s
  refine kat_cons (wpAny_eqBool_int ?_)
  unfold lexLt at h
  by_cases e : a = c
  · subst e
    simp only [beq_self_eq_true, if_true] at h ⊢
    refine kat_yes (kat_cons (wpAny_eqBool_int ?_))
    by_cases e2 : b = d
    · subst e2
      simp only [beq_self_eq_true]
      refine kat_yes (kat_nil ?_)
      simpa using h
    · have e2' : (b == d) = false := by simpa using e2
      rw [e2']
      refine kat_no ?_
      refine kat_one _ _ ?_
      exact lt_int h
  · have e' : (a == c) = false := by simpa using e
    have h' : Q (decide (a < c)) s := by simpa [e'] using h
    rw [e']
    refine kat_no ?_
    exact oneLt_int h'
theorem all2_getD {ρ : List Addr} {us : List V} {its : List Value} (h : All2 (VR ρ) us its) : ∀ is : List Nat, All2 (VR ρ) (is.map fun i => us.getD i .none) (is.map fun i => its.getD i Value.none)
  | [] => trivial
  | i :: is => by
    refine ⟨?_, all2_getD h is⟩
    show VR ρ (us.getD i .none) (its.getD i Value.none)
    rw [List.getD_eq_getElem?_getD, List.getD_eq_getElem?_getD]
    cases e : us[i]? with
    | none =>
      have : its[i]? = none := by
        rw [List.getElem?_eq_none_iff] at e ⊢
        rw [← h.length]; exact e
      rw [this]; trivial
    | some v =>
      obtain ⟨w, hw, r⟩ := h.get e
      rw [hw]; exact r
theorem bc_sorted2 : BC C f n (.builtin "sorted") sortV2 := by
  intro vs σ r h A mF aux led vals a rv s Q E M P
  unfold sortV2 at h
  split at h <;> first | (cases h; done) | skip
  rename_i k
  split at h <;> first | (cases h; done) | skip
  rename_i us e
  split at h
  · exact bc_sorted (n := n) _ σ r h A mF aux led vals a rv s Q E M P
  · obtain ⟨ps, hp, h⟩ := Option.bind_eq_some_iff.mp h
    split at h <;> first | (cases h; done) | skip
    rename_i hz
    obtain ⟨z1, z2, z3, z4⟩ := hz
    cases h
    obtain ⟨v, vals', rfl, rv1, rv2⟩ := rv.cons_inv
    obtain rfl := rv2.nil_inv
    obtain ⟨x, its, m, rfl, h1, h2, h3, h4⟩ := list_at M e rv1
    obtain ⟨lp, _, _⟩ := pairs_at M hp h2
    refine kat_sorted M.fr M.nw h4 (by omega) (by omega) fun D e1 h' F' N' lt => ?_
    -- the new list in the hidden part
    have M' : MemC C f mF ((D, seqObj "list" #[] e1) :: aux) led σ h' := by
      refine ⟨F', fun p hp => N' p ?_, ?_, M.rel⟩
      · simp only [List.mem_append, List.mem_cons] at hp ⊢
        rcases hp with h | h | h <;> simp [h]
      · have nd := M.nd
        rw [List.map_append] at nd ⊢
        rw [List.map_cons]
        rw [List.nodup_append] at nd ⊢
        refine ⟨nd.1, List.nodup_cons.mpr ⟨fun hm => ?_, nd.2.1⟩, fun x hx y hy => ?_⟩
        · obtain ⟨p, hp, e⟩ := List.mem_map.mp hm
          exact Nat.lt_irrefl _ (e ▸ lt p (List.mem_append_right _ hp))
        · rcases List.mem_cons.mp hy with rfl | hy
          · obtain ⟨p, hp, e⟩ := List.mem_map.mp hx
            exact fun q => Nat.lt_irrefl _ (q ▸ e ▸ lt p (List.mem_append_left _ hp))
          · exact nd.2.2 x hx y hy
    obtain ⟨lp', ⟨fs, kt, kl, kf⟩, pa⟩ := pairs_at M' hp h2
    refine kat_kind kt (by rw [kl, ← lp]; omega) (fun v hv => ?_) (T := .type "int") rfl ?_
    · obtain ⟨i, t, rfl⟩ := kf v hv
      exact fun A Q E s k q => wpAny_typeOf (typeIs_int s i t) q
    · have e0 : its.length = ps.length := lp.symm
      rw [show (Value.type "int" != Value.type "tuple") = true from by decide, e0]
      refine kas_evalI (n := ps.length) (lt := pairLt ps) (fun i j K hi hj hk => ?_) _ z4 ?_
      · obtain ⟨x1, o1, n1, t1, u1, a1, a2, a3⟩ := pa i hi
        obtain ⟨x2, o2, n2, t2, u2, b1, b2, b3⟩ := pa j hj
        unfold kas_ask
        rw [List.getD_eq_getElem?_getD, List.getD_eq_getElem?_getD, a1, b1]
        exact pair_lt a2 a3 b2 b3 hk
      · refine KasFin.intro (news := (D, seqObj "list" #[] e1) :: (led ++ aux)) F' N' (UpdF.head fun p hp => Nat.ne_of_lt (lt p hp)) fun h'' c F'' N'' => ?_
        have outs := all2_getD h2 (sortOrd ps)
        obtain ⟨led', M2, p2, v2⟩ := new_at (o := .list ((sortOrd ps).map fun i => us.getD i .none)) M F'' N'' lt ⟨_, c, rfl, outs.imp fun _ _ => VR.mono (List.prefix_append _ _), by rw [sizeLine_is, List.length_map]; omega⟩
        exact P led' _ _ _ p2 M2 v2
end
end Mine

end
section
open PySem PySem.W PyProof.Rows PySem.Calls PySem.Spec PyProof.V PySem.SeqAt
set_option linter.unusedSimpArgs false
set_option linter.unusedVariables false
set_option autoImplicit false
set_option Elab.async false
namespace Mine
/-! ## try, where nothing is raised -/
/-- behind a try's block: only what is not raised -/
def tryN (b : SF) : SF := fun le σ => match b le σ with
  | some (.ok fl lo σ1) => some (.ok fl lo σ1)
  | _ => none
def finN (b fb : SF) : SF := fun le σ => match b le σ with
  | some (.ok fl lo σ1) => match fb ⟨lo, le.cl⟩ σ1 with
    | some (.ok .next lo2 σ2) => some (.ok fl lo2 σ2)
    | _ => none
  | _ => none
section
variable {C : Ctx} {f : Fm} {n : Nat}
theorem ss_tryN {b : List Stmt} {h₀ : ExceptHandler} {hs : List ExceptHandler} {pos : Pos} {eb : SF} (hb : SL C f n b eb) : SS C f n (.Try b (h₀ :: hs) [] [] pos) (tryN eb) := by
  refine ⟨?_⟩
  intro le σ r h m aux led A a hl l s Q E M P
  unfold tryN at h
  split at h <;> first | (cases h; done) | skip
  rename_i fl lo σ1 e
  cases h
  refine wpAny_Try_except (hb.p le σ _ e m aux led A a hl l s _ _ M ?_)
  intro m' led' h' tk flv p' M' l' hf
  have q := P m' led' h' tk flv p' M' l' hf
  cases flv with
  | next => exact wpAny_execs_nil q
  | brk => exact q
  | cont => exact q
  | ret v => exact q
theorem ss_finN {b fs : List Stmt} {f₀ : Stmt} {pos : Pos} {eb ef : SF} (hb : SL C f n b eb) (hf : SL C f n (f₀ :: fs) ef) : SS C f n (.Try b [] [] (f₀ :: fs) pos) (finN eb ef) := by
  refine ⟨?_⟩
  intro le σ r h m aux led A a hl l s Q E M P
  unfold finN at h
  split at h <;> first | (cases h; done) | skip
  rename_i fl lo σ1 e
  split at h <;> first | (cases h; done) | skip
  rename_i lo2 σ2 e2
  cases h
  have fin : ∀ (E' : Value → Shared → Prop) m' led' h' tk flv, ats led <+: ats led' → MemC C f m' aux led' σ1 h' → LeR f (ats led') m' ⟨lo, le.cl⟩ → FlR (ats led') fl flv →
      wpAny (model C.prog C.w) A (execs (f₀ :: fs) f.env) (fun g s' => match g with | .next => Q flv s' | g => Q g s') E' { s with heap := h', toks := tk } := by
    intro E' m' led' h' tk flv p' M' l' hfl
    refine hf.p ⟨lo, le.cl⟩ σ1 _ e2 m' aux led' A a hl l' _ _ _ M' ?_
    intro m2 led2 h2 tk2 flv2 p2 M2 l2 hf2
    obtain rfl := hf2.next_inv
    exact P m2 led2 h2 tk2 flv (p'.trans p2) M2 l2 (hfl.mono p2)
  refine wpAny_Try_finally (hb.p le σ _ e m aux led A a hl l s _ _ M ?_)
  intro m' led' h' tk flv p' M' l' hfl
  cases flv with
  | next => exact wpAny_execs_nil (fin _ m' led' h' tk _ p' M' l' hfl)
  | brk => exact fin _ m' led' h' tk _ p' M' l' hfl
  | cont => exact fin _ m' led' h' tk _ p' M' l' hfl
  | ret v => exact fin _ m' led' h' tk _ p' M' l' hfl
end
end Mine

end
section
open PySem PySem.W PyProof.Rows PySem.Calls PySem.Spec PyProof.V PySem.SeqAt
set_option linter.unusedSimpArgs false
set_option linter.unusedVariables false
set_option autoImplicit false
set_option Elab.async false
namespace Mine
/-! ## attributes read, a class called by keywords, a dict of one item; names -/
def attrE (T : Tab) (i : Nat) (e : EF) : EF := fun le σ => bindR (e le σ) (attrV T i)
def propE (T : Tab) (call : CallF) (e : EF) : EF := fun le σ => bindR (e le σ) (propV T call)
def intE (i : Int) : EF := fun _ σ => some (.ok (.int i) σ)
def boolE (b : Bool) : EF := fun _ σ => some (.ok (.bool b) σ)
def noneE : EF := fun _ σ => some (.ok .none σ)
def locE (i : Nat) : EF := fun le σ => (le.lo[i]?).join.map (.ok · σ)
def celE (j : Nat) : EF := fun le σ => (le.cl[j]?).bind fun k => match σ[k]? with | some (.cell (some v)) => some (.ok v σ) | _ => none
def gloE (v : V) : EF := fun _ σ => some (.ok v σ)
def dict1 (i : Int) (e : EF) : EF := fun le σ => match e le σ with
  | some (.ok v σ1) => some (.ok (.ref σ1.length) (σ1 ++ [.dict [(i, v)] none]))
  | _ => none
section
variable {C : Ctx} {f : Fm} {n : Nat}
theorem se_attr {T : Tab} (ok : FmOk C f) (tk : TabOk C T) (i : Nat) {o : Expr} {pos : Pos} {e1 : EF} (h1 : SE C f n o e1)
    (he : eval (.Attribute o (nm i) pos) f.env = (do
      let x ← eval o f.env
      standAt pos.atName
      let r ← holding [x] (getAttr x (nm i) true)
      letTemporaryGo o x r
      pure r)) : SE C f n (.Attribute o (nm i) pos) (attrE T i e1) := by
  refine ⟨?_⟩
  intro le σ r h mF m aux led A a lc lr s Q E M P
  refine Attribute_any_ (compose h (fun r1 q => h1.p le σ r1 q mF m aux led A a lc lr) M P fun x σ1 led1 hp1 tk1 b hk p1 M1 R1 P1 => ?_) he
  exact attr_ok ok tk i x σ1 _ hk A mF aux led1 _ a R1 _ _ _ M1 P1
theorem se_prop {T : Tab} {call : CallF} (ok : FmOk C f) (tk : TabOk C T) (hc : CallOk C T call n) {o : Expr} {pos : Pos} {e1 : EF} (h1 : SE C f (n + 1) o e1)
    (he : eval (.Attribute o "weight" pos) f.env = (do
      let x ← eval o f.env
      standAt pos.atName
      let r ← holding [x] (getAttr x "weight" true)
      letTemporaryGo o x r
      pure r)) : SE C f (n + 1) (.Attribute o "weight" pos) (propE T call e1) := by
  refine ⟨?_⟩
  intro le σ r h mF m aux led A a lc lr s Q E M P
  refine Attribute_any_ (compose h (fun r1 q => h1.p le σ r1 q mF m aux led A a lc lr) M P fun x σ1 led1 hp1 tk1 b hk p1 M1 R1 P1 => ?_) he
  exact prop_ok ok tk hc x σ1 _ hk A mF aux led1 _ a R1 _ _ _ M1 P1
/-! ### a class called by two keywords -/
theorem wpAny_Call_NameKW {M : Model} {A : Around} {E : Value → Shared → Prop} {s : Shared} {env : Env} {id : Str} {p pos : Pos} {args : List Expr} {kws : List Keyword} {Q : Value → Shared → Prop}
    (h : wpAny M A (eval (.Name id p) env) (fun f s₁ => wpAny M A (callWith pos f [] (backTo pos (starEach args env)) (backToKw pos (keywordEach kws env))) Q E s₁) E s) :
    wpAny M A (eval (.Call (.Name id p) args kws pos) env) Q E s := by
  show wpAny M A (do callWith pos (← eval (.Name id p) env) [] (backTo pos (starEach args env)) (backToKw pos (keywordEach kws env))) Q E s
  exact wpAny_bind h
theorem se_newKw2 {call : CallF} {T : Tab} (ok : FmOk C f) (tk : TabOk C T) (hc : CallOk C T call n) {x : Str} {c : Addr} {g g' : Nat} {p p1 p2 pos : Pos} {k1 k2 : Str} {a1 a2 : Expr} {e1 e2 : EF}
    (hx : f.env.kindOf x = some .globalImplicit) (hd : (x == ("__debug__" : Str)) = false) (gv : GV C x (.ref c)) (hk : keepIn C.K (.ref c) = true) (hcl : T.isCls c = true) (hg : T.mth c 2 = some g) (ha : T.addr g' = T.addr g) (hkw : T.kw g' = some (1, [k1, k2]))
    (h1 : SE C f (n + 1) a1 e1) (h2 : SE C f (n + 1) a2 e2) :
    SE C f (n + 1) (.Call (.Name x p) [] [⟨some k1, a1, p1⟩, ⟨some k2, a2, p2⟩] pos) (newE call c g' (consS e1 (consS e2 nilS))) := by
  refine ⟨?_⟩
  intro le σ r h mF m aux led A a lc lr s Q E M P
  refine wpAny_Call_NameKW ((se_glob (v := .glob c) ok hx hd gv rfl).p le σ _ rfl mF m aux led A a lc lr s _ E M ?_)
  intro led1 hp1 tk1 b p1' M1 R1
  obtain rfl := R1.glob_inv
  have P' := P.step (h1 := hp1) (tk1 := tk1) p1'
  have lr' := lr.mono p1'
  unfold newE consS nilS at h
  have ass : bindR (e1 le σ) (fun v σ1 => bindR (e2 le σ1) fun w σ2 => newV call c g' [v, w] σ2) = some r := by
    rw [← h]
    cases e1 le σ with
    | none => rfl
    | some q1 => cases q1 with
      | exc => rfl
      | ok v σ1 =>
        show bindR (e2 le σ1) _ = bindR (bindR (bindR (e2 le σ1) _) _) _
        cases e2 le σ1 with
        | none => rfl
        | some q2 => cases q2 <;> rfl
  refine callWith_KW0 ok.X hk rfl ?_ rfl
  refine kwAll_cons (compose ass (fun r1 q => h1.p le σ r1 q mF m aux led1 A a lc lr') M1 P' fun y σ2 led2 hp2 tk2 b2 hk2 p2 M2 R2 P2 => ?_)
  refine kwAll_cons (compose hk2 (fun r1 q => h2.p le σ2 r1 q mF m aux led2 A a lc (lr'.mono p2)) M2 P2 fun z σ3 led3 hp3 tk3 b3 hk3 p3 M3 R3 P3 => ?_)
  refine kwAll_nil ⟨ok.X.keeps M3.fr.keep, ?_⟩
  refine new_ok (kws := []) (k := 0) ok tk hc hcl hg trivial ha hk3 a ⟨R2.mono p3, R3, trivial⟩ (vals := [b2, b3]) (fun w => ?_) _ _ _ M3 P3
  unfold Tab.args
  rw [hkw]
  rfl
/-! ### a dict of one item -/
theorem LocAt.behind {mF m : Str → Option Value} {aux : Led} (l : LocAt f mF aux m) (p : Addr × Obj) : LocAt f mF (aux ++ [p]) m := by
  cases l with
  | fn e e' => exact .fn e e'
  | cp e h => exact .cp (by rw [e]; rfl) h
theorem se_dict1 (ok : FmOk C f) {i : Int} {k : Nat} {p pos : Pos} {e : Expr} {ev : EF} (he : SE C f n e ev) : SE C f n (.Dict [some (.Constant (.int i) k p)] [e] pos) (dict1 i ev) := by
  refine ⟨?_⟩
  intro le σ r h mF m aux led A a lc lr s Q E M P
  unfold dict1 at h
  split at h <;> first | (cases h; done) | skip
  rename_i v σ1 hv
  cases h
  refine Dict_made_int rfl M.fr rfl rfl (by simp) (by simp) fun F1 => ?_
  have M1 : MemC C f mF ((s.heap.objs.size, { cls := .type "dict", data := .dict #[] }) :: aux) led σ (s.heap.push { cls := .type "dict", data := .dict #[] }) := M.auxNew _ rfl
  generalize hD : s.heap.objs.size = D at *
  have M2 : MemC C f mF (aux ++ [(D, { cls := .type "dict", data := .dict #[] })]) led σ (s.heap.push { cls := .type "dict", data := .dict #[] }) := M1.perm (List.perm_append_singleton _ _).symm
  refine pairTrees_cons_walk (wpAny_Constant_int ?_)
  refine he.p le σ _ hv mF m _ led A a (lc.behind _) lr _ _ E M2 ?_
  intro led3 h3 tk3 val p3 M3 R3
  refine pairTrees_nil_walk ?_
  have M4 : MemC C f mF ((D, { cls := .type "dict", data := .dict #[] }) :: aux) led3 σ1 h3 := M3.perm (List.perm_append_singleton _ _)
  have hd : Obj.IsDictOf (intKind C.prog C.w) ({ cls := .type "dict", data := .dict #[] } : Obj) [] := by
    obtain ⟨o, ho, hd⟩ := PySem.Heap.dictOf_iff.mp (Heap.DictOf.new (knd := intKind C.prog C.w) s.heap)
    rw [Heap.get?_push_size _ rfl] at ho
    exact (Option.some.inj ho) ▸ hd
  refine ⟨[(i, val)], ⟨by simp [intKind, Value.isInt], rfl, trivial⟩, PySem.Heap.dictOf_iff.mpr ⟨_, M4.auxGet, hd⟩, fun h' hd' hs => ?_⟩
  obtain ⟨ob, hob, hdo⟩ := PySem.Heap.dictOf_iff.mp hd'
  have M5 := M4.auxHead hs hob
  have em : merged ([] : List (Int × Value)) [(i, val)] = [(i, val)] := by simp [merged, stored]
  rw [em] at hdo
  obtain ⟨led6, M6, p6, v6⟩ := M5.auxToLed (o := .dict [(i, v)] none) ⟨[(i, val)], hdo, ⟨⟨rfl, R3.mono (List.prefix_append _ _)⟩, trivial⟩, by rw [sizeLine_is]; simp, fun e he => by cases he⟩
  exact P led6 h' _ _ (p3.trans p6) M6 v6
/-! ### the same by names -/
theorem se_i {i : Int} {k : Nat} {pos : Pos} : SE C f n (.Constant (.int i) k pos) (intE i) := se_int
theorem se_b {i : Bool} {k : Nat} {pos : Pos} : SE C f n (.Constant (.bool i) k pos) (boolE i) := se_bool
theorem se_n {k : Nat} {pos : Pos} : SE C f n (.Constant .none k pos) noneE := se_none
theorem se_l (ok : FmOk C f) (i : Nat) {x : Str} {pos : Pos} (hx : f.xs[i]? = some x) : SE C f n (.Name x pos) (locE i) := se_local ok hx
theorem se_c (ok : FmOk C f) (j : Nat) {x : Str} {pos : Pos} (hx : f.cs[j]? = some x) : SE C f n (.Name x pos) (celE j) := se_cell ok hx
theorem se_g (ok : FmOk C f) {x : Str} {v : V} {val : Value} {pos : Pos} (hx : f.env.kindOf x = some .globalImplicit) (hd : (x == ("__debug__" : Str)) = false) (g : GV C x val) (r : VR [] v val) : SE C f n (.Name x pos) (gloE v) := se_glob ok hx hd g r
def asgTE (ts : List TF) (e : EF) : SF := fun le σ => bindE le.lo (e le σ) fun v σ1 => (tgT ts v le σ1).map fun p => .ok .next p.1 p.2
theorem ss_t {ts : List Expr} {tfs : List TF} {k : Nat} {p pos : Pos} {e : Expr} {ev : EF} (ht : TGs C f n ts tfs) (he : SE C f n e ev)
    (hs : swapsWithSole [.Tuple ts k p] e pos.line f.env = pure false) (hw : swappedStores [.Tuple ts k p] e f.env = pure none) : SS C f n (.Assign [.Tuple ts k p] e pos) (asgTE tfs ev) := ss_asgT ht he hs hw
end
end Mine

end
section
open PySem PySem.W PyProof.Rows PySem.Calls PySem.Spec PyProof.V PySem.SeqAt
set_option linter.unusedSimpArgs false
set_option linter.unusedVariables false
set_option autoImplicit false
set_option Elab.async false
namespace Mine
/-! ## swapped stores; the table's lookups -/
def asgSw (is : List Nat) (e : EF) : SF := fun le σ => bindE le.lo (e le σ) fun v σ1 => match v with
  | .ref i => match σ1[i]? with
    | some (.tup vs) => (stores (is.reverse.map tgL) vs.reverse v le σ1).map fun p => .ok .next p.1 p.2
    | _ => none
  | _ => none
section
variable {C : Ctx} {f : Fm} {n : Nat}
theorem bindStores_ok (ok : FmOk C f) : ∀ {ns : List Str} {is : List Nat}, All2 (fun x i => f.xs[i]? = some x) ns is → ∀ {vs : List V} {w : V} {le : Le} {σ : St} {lo' : List (Option V)} {σ' : St}, stores (is.map tgL) vs w le σ = some (lo', σ') → ∀ {m : Str → Option Value} {aux led : Led} {A : Around}, AOk f n A → f.env.locals = f.L → LeR f (ats led) m le →
    ∀ {s : Shared} {Q : Unit → Shared → Prop} {E : Value → Shared → Prop} {vals : List Value}, MemC C f m aux led σ s.heap → All2 (VR (ats led)) vs vals →
    (∀ m' led' h' tk, ats led <+: ats led' → MemC C f m' aux led' σ' h' → LeR f (ats led') m' ⟨lo', le.cl⟩ → Q () { s with heap := h', toks := tk }) → wpAny (model C.prog C.w) A (assignInOrder (ns.map fun n => bindName f.env n) vals) Q E s
  | [], is, h, vs, w, le, σ, lo', σ', hst, m, aux, led, A, a, hl, l, s, Q, E, vals, M, r, q => by
    rw [h.nil_inv] at hst
    cases vs with
    | nil => cases hst; exact assignInOrder_nil (q m led s.heap s.toks (List.prefix_refl _) M l)
    | cons => cases hst
  | x :: ns, is, h, vs, w, le, σ, lo', σ', hst, m, aux, led, A, a, hl, l, s, Q, E, vals, M, r, q => by
    obtain ⟨i, is', rfl, h1, h2⟩ := h.cons_inv
    cases vs with
    | nil => cases hst
    | cons v vs =>
      obtain ⟨⟨lo1, σ1⟩, g1, g2⟩ := Option.bind_eq_some_iff.mp hst
      cases g1
      obtain ⟨val, vals', rfl, r1, r2⟩ := r.cons_inv
      rw [List.map_cons]
      refine assignInOrder_cons (bindName_ (store_local ok h1 hl l M r1 fun h' m' M2 l2 => ?_))
      exact bindStores_ok ok h2 g2 a hl l2 M2 r2 fun m3 led3 h3 tk3 p3 M3 l3 => q m3 led3 h3 tk3 p3 M3 l3
theorem All2.rev_is {α β : Type} {R : α → β → Prop} {as : List α} {bs : List β} (h : All2 R as bs) : All2 R as.reverse bs.reverse := h.reverse
theorem ss_sw (ok : FmOk C f) {ts : List Expr} {names : List Str} {is : List Nat} {k : Nat} {p pos : Pos} {e : Expr} {ev : EF} (he : SE C f n e ev) (hn : All2 (fun x i => f.xs[i]? = some x) names is)
    (hs : swapsWithSole [.Tuple ts k p] e pos.line f.env = pure false) (hw : swappedStores [.Tuple ts k p] e f.env = pure (some names)) : SS C f n (.Assign [.Tuple ts k p] e pos) (asgSw is ev) :=
  ss_asgTsw (tfs := is.reverse.map tgL) he (fun vs w le σ lo' σ' h m aux led A a hl l s Q E vals M r q => bindStores_ok ok hn.reverse h a hl l M r q) (by rw [List.length_map, List.length_reverse, hn.length]) hs hw
end
/-! ### what the head's heap says -/
def bodyOf (K : Frag) (a : Addr) : List Stmt := match K.lookup a with
  | some ⟨_, _, .func fd, _⟩ => (match fd.body with
    | .stmts b => b
    | _ => [])
  | _ => []
def scOf (K : Frag) (a : Addr) : Scope := match K.lookup a with
  | some ⟨_, _, .func fd, _⟩ => fd.scope
  | _ => ⟨.module, [], false, false, []⟩
def quOf (K : Frag) (a : Addr) : Str := match K.lookup a with
  | some ⟨_, _, .func fd, _⟩ => fd.qualname
  | _ => ""
def cdOf (K : Frag) (a : Addr) : Value := match K.lookup a with
  | some ⟨_, _, .func fd, _⟩ => fd.code
  | _ => .none
end Mine

end
section
open PySem PySem.W PyProof.Rows PySem.Calls PySem.Spec PyProof.V PySem.SeqAt
set_option linter.unusedSimpArgs false
set_option linter.unusedVariables false
set_option autoImplicit false
set_option Elab.async false
namespace Mine
/-! ## what is looked up by evaluation -/
def isK (names : List (Str × NameKind)) (k : NameKind) (x : Str) : Bool := match names.lookup x with
  | some k' => k' == k
  | none => false
theorem isK_of {names : List (Str × NameKind)} {k : NameKind} {x : Str} (h : isK names k x = true) : names.lookup x = some k := by
  unfold isK at h
  split at h
  · rename_i k' e; rw [e]; simpa using h
  · cases h
def nodupB : List Str → Bool
  | [] => true
  | x :: r => !r.contains x && nodupB r
theorem nodupB_of : ∀ {l : List Str}, nodupB l = true → l.Nodup
  | [], _ => .nil
  | x :: r, h => by
    unfold nodupB at h
    rw [Bool.and_eq_true] at h
    rw [List.nodup_cons]
    refine ⟨fun hm => ?_, nodupB_of h.2⟩
    have := h.1
    simp [hm] at this
def notDbg (xs : List Str) : Bool := xs.all fun x => !(x == ("__debug__" : Str))
theorem notDbg_of {xs : List Str} (h : notDbg xs = true) : ∀ x ∈ xs, (x == ("__debug__" : Str)) = false := fun x hx => by
  have := List.all_eq_true.mp h x hx
  simpa using this
def frsB (cs : List Str) : List Str → List Nat → Bool
  | [], [] => true
  | x :: r, j :: js => (match cs[j]? with
      | some y => y == x
      | none => false) && frsB cs r js
  | _, _ => false
theorem frsB_of {cs : List Str} : ∀ {frn : List Str} {fr : List Nat}, frsB cs frn fr = true → All2 (fun x j => cs[j]? = some x) frn fr
  | [], [], _ => trivial
  | [], _ :: _, h => by cases h
  | _ :: _, [], h => by cases h
  | x :: r, j :: js, h => by
    unfold frsB at h
    rw [Bool.and_eq_true] at h
    refine ⟨?_, frsB_of h.2⟩
    have h1 := h.1
    split at h1
    · rename_i y e; show cs[j]? = some x; rw [e]; simpa using h1
    · cases h1
def compB (f : Fm) (sc : Scope) (xs frn : List Str) (fr : List Nat) : Bool :=
  (sc.kind == .function) && (sc.names.all fun x => !(x.2 == .local) || isK sc.names .local x.1) && (xs.all fun x => isK (relabel sc f.env).names .local x) && nodupB xs && nodupB (cellNames sc.names) &&
  ((cellNames sc.names ++ frn).all fun x => isK (relabel sc f.env).names .cell x) && (sc.names.all fun x => !(x.2 == .free) || f.cs.contains x.1) && frsB f.cs frn fr &&
  (frn.all fun x => sc.names.contains (x, NameKind.free) && !(cellNames sc.names).contains x) && notDbg (xs ++ (cellNames sc.names ++ frn))
theorem compB_of {f : Fm} {sc : Scope} {xs frn : List Str} {fr : List Nat} (h : compB f sc xs frn fr = true) : CompSt f sc xs frn fr := by
  unfold compB at h
  simp only [Bool.and_eq_true] at h
  obtain ⟨⟨⟨⟨⟨⟨⟨⟨⟨h1, h2⟩, h3⟩, h4⟩, h5⟩, h6⟩, h7⟩, h8⟩, h9⟩, h10⟩ := h
  exact {
    kind := by simpa using h1
    nameL := fun x hx hl => by
      have := List.all_eq_true.mp h2 x hx
      rw [hl] at this
      exact isK_of (by simpa using this)
    xl := fun x hx => isK_of (List.all_eq_true.mp h3 x hx)
    xn := nodupB_of h4
    own := nodupB_of h5
    cl := fun x hx => isK_of (List.all_eq_true.mp h6 x hx)
    fre := fun x hx hl => by
      have := List.all_eq_true.mp h7 x hx
      rw [hl] at this
      simpa using this
    frs := frsB_of h8
    frf := fun x hx => by
      have := List.all_eq_true.mp h9 x hx
      rw [Bool.and_eq_true] at this
      exact ⟨by simpa using this.1, by simpa using this.2⟩
    hid := notDbg_of h10 }
def fnB (sc : Scope) (ps xs : List Str) : Bool :=
  (ps.all fun x => isK sc.names .local x || (isK sc.names .cell x && (csOf sc).contains x)) && nodupB (csOf sc) && (!sc.isCoroutine) && (!sc.isGenerator) && (sc.kind == .function) &&
  (xs.all fun x => isK sc.names .local x) && nodupB xs && ((csOf sc).all fun x => isK sc.names .cell x) && notDbg (xs ++ csOf sc)
theorem fnB_of {C : Ctx} {a : Addr} {ps xs : List Str} {pl pc : List (Option Nat)} {argsOf : List Value → Args} {full : List V → Option (List V)} {qual : Str} {sc : Scope} {cdv : Value} {body : List Stmt} (h : fnB sc ps xs = true)
    (rec_ : ∃ (name : Str) (params : Arguments) (dV kV doc pm : Value) (an : Option Addr) (ct oc : Value) (od : Option Addr) (osl : Array (Option Value)), C.K.lookup a = some ⟨oc, od, .func (fnX name qual params body sc [] dV kV doc pm an cdv ct), osl⟩ ∧
      ∀ (s : Shared) (ρ : List Addr) (args : List V) (vals : List Value) (fa : List V), C.K.In s.heap → full args = some fa → All2 (VR ρ) args vals →
        ∃ fv, All2 (VR ρ) fa fv ∧ fa.length = ps.length ∧ BindsTo s (fnX name qual params body sc [] dV kV doc pm an cdv ct) (argsOf vals) (ps.zip fv))
    (code : codeIn C.K cdv qual = true)
    (pl_ : ∀ fv : List Value, fv.length = ps.length → All2 (fun x o => bindL (fun y => sc.names.lookup y) (ps.zip fv) (fun _ => none) x = o.bind fun i => fv[i]?) xs pl)
    (pc_ : ∀ fv : List Value, fv.length = ps.length → All2 (fun x o => bindC (fun y => sc.names.lookup y) (ps.zip fv) (fun _ => none) x = o.bind fun i => fv[i]?) (csOf sc) pc) :
    FnOk C a ps xs pl pc argsOf full qual sc cdv body := by
  unfold fnB at h
  simp only [Bool.and_eq_true] at h
  obtain ⟨⟨⟨⟨⟨⟨⟨⟨h1, h2⟩, h3⟩, h4⟩, h5⟩, h6⟩, h7⟩, h8⟩, h9⟩ := h
  exact {
    rec_ := rec_, code := code, pl_ := pl_, pc_ := pc_
    kinds := fun x hx => by
      have := List.all_eq_true.mp h1 x hx
      rw [Bool.or_eq_true] at this
      rcases this with q | q
      · exact .inl (isK_of q)
      · rw [Bool.and_eq_true] at q
        exact .inr ⟨isK_of q.1, by simpa using q.2⟩
    nd := nodupB_of h2
    co := by simpa using h3
    gen := by simpa using h4
    kind := by simpa using h5
    xl := fun x hx => isK_of (List.all_eq_true.mp h6 x hx)
    xn := nodupB_of h7
    cl := fun x hx => isK_of (List.all_eq_true.mp h8 x hx)
    hid := notDbg_of h9 }
theorem len1 {α : Type} {l : List α} (h : l.length = 1) : ∃ a, l = [a] := by
  match l, h with
  | [a], _ => exact ⟨a, rfl⟩
theorem len2 {α : Type} {l : List α} (h : l.length = 2) : ∃ a b, l = [a, b] := by
  match l, h with
  | [a, b], _ => exact ⟨a, b, rfl⟩
theorem len3 {α : Type} {l : List α} (h : l.length = 3) : ∃ a b c, l = [a, b, c] := by
  match l, h with
  | [a, b, c], _ => exact ⟨a, b, c, rfl⟩
theorem len4 {α : Type} {l : List α} (h : l.length = 4) : ∃ a b c d, l = [a, b, c, d] := by
  match l, h with
  | [a, b, c, d], _ => exact ⟨a, b, c, d, rfl⟩
theorem len5 {α : Type} {l : List α} (h : l.length = 5) : ∃ a b c d e, l = [a, b, c, d, e] := by
  match l, h with
  | [a, b, c, d, e], _ => exact ⟨a, b, c, d, e, rfl⟩
theorem len6 {α : Type} {l : List α} (h : l.length = 6) : ∃ a b c d e g, l = [a, b, c, d, e, g] := by
  match l, h with
  | [a, b, c, d, e, g], _ => exact ⟨a, b, c, d, e, g, rfl⟩
theorem All2.one {α β : Type} {R : α → β → Prop} {a : α} {bs : List β} (h : All2 R [a] bs) : ∃ b, bs = [b] ∧ R a b := by
  obtain ⟨b, bs', rfl, h1, h2⟩ := h.cons_inv
  rw [h2.nil_inv]; exact ⟨b, rfl, h1⟩
theorem All2.two {α β : Type} {R : α → β → Prop} {a a' : α} {bs : List β} (h : All2 R [a, a'] bs) : ∃ b b', bs = [b, b'] ∧ R a b ∧ R a' b' := by
  obtain ⟨b, bs', rfl, h1, h2⟩ := h.cons_inv
  obtain ⟨b', rfl, h3⟩ := h2.one
  exact ⟨b, b', rfl, h1, h3⟩
theorem tgT_ref {ts : List TF} : ∀ v le σ r, tgT ts v le σ = some r → ∃ k, v = .ref k := by
  intro v le σ r h
  cases v with
  | ref k => exact ⟨k, rfl⟩
  | _ => cases h
/-- all arguments given -/
def exact_ (k : Nat) (args : List V) : Option (List V) := if args.length = k then some args else none
theorem exact_of {k : Nat} {args fa : List V} (h : exact_ k args = some fa) : fa = args ∧ args.length = k := by
  unfold exact_ at h
  split at h
  · rename_i e; cases h; exact ⟨rfl, e⟩
  · cases h
section
variable {C : Ctx} {f : Fm} {n : Nat}
theorem se_lc {T : Tab} (ok : FmOk C f) (tk : TabOk C T) {sc : Scope} (xs frn : List Str) (fr : List Nat) (S : compB f sc xs frn fr = true) {t it elt : Expr} {ifs : List Expr} {pos : Pos} {tup : Bool} {no nl : Nat} {ei : EF} {tf : TF} {test : Option EFb} {ev : EF}
    (hi : SE C f n it ei) (ht : ∀ D, FmOk C (compFm f sc xs frn D) → TGc C (compFm f sc xs frn D) n t tf) (hif : ∀ D, FmOk C (compFm f sc xs frn D) → TS C (compFm f sc xs frn D) n ifs test) (he : ∀ D, FmOk C (compFm f sc xs frn D) → SE C (compFm f sc xs frn D) n elt ev)
    (hno : (cellNames sc.names).length = no) (hnl : xs.length = nl)
    (hgo : (tup = false ∧ ∀ i v, letOwnedTupleGo t i v = pure ()) ∨ (tup = true ∧ (∃ elts k p, t = .Tuple elts k p) ∧ ∀ v le σ r, tf v le σ = some r → ∃ k, v = .ref k))
    (hs : ∀ x, foldedSetIterable it f.env x = pure x) : SE C f n (.ListComp elt [⟨t, it, ifs, 0⟩] sc pos) (compE T tup ei nl no fr tf test ev) := by
  subst hnl
  exact se_comp ok tk (compB_of S) hi (fun D => ht D (compFm_ok ok (compB_of S) D)) (fun D => hif D (compFm_ok ok (compB_of S) D)) (fun D => he D (compFm_ok ok (compB_of S) D)) hno hgo hs
theorem ss_lc {T : Tab} (ok : FmOk C f) (tk : TabOk C T) {sc : Scope} (xs frn : List Str) (fr : List Nat) (S : compB f sc xs frn fr = true) {t it elt : Expr} {ifs : List Expr} {pos spos py : Pos} {y : Str} (i : Nat) {tup : Bool} {no nl : Nat} {ei : EF} {tf : TF} {test : Option EFb} {ev : EF} (hy : f.xs[i]? = some y)
    (hi : SE C f n it ei) (ht : ∀ D, FmOk C (compFm f sc xs frn D) → TGc C (compFm f sc xs frn D) n t tf) (hif : ∀ D, FmOk C (compFm f sc xs frn D) → TS C (compFm f sc xs frn D) n ifs test) (he : ∀ D, FmOk C (compFm f sc xs frn D) → SE C (compFm f sc xs frn D) n elt ev)
    (hno : (cellNames sc.names).length = no) (hnl : xs.length = nl)
    (hgo : (tup = false ∧ ∀ i v, letOwnedTupleGo t i v = pure ()) ∨ (tup = true ∧ (∃ elts k p, t = .Tuple elts k p) ∧ ∀ v le σ r, tf v le σ = some r → ∃ k, v = .ref k))
    (hs : ∀ x, foldedSetIterable it f.env x = pure x)
    (hsw : swapsWith (.ListComp elt [⟨t, it, ifs, 0⟩] sc pos) (some (.Name y py)) spos.line f.env = pure true) :
    SS C f n (.Assign [.Name y py] (.ListComp elt [⟨t, it, ifs, 0⟩] sc pos) spos) (asgK T i tup ei nl no fr tf test ev) := by
  subst hnl
  exact ss_asgK ok tk (compB_of S) hy hi (fun D => ht D (compFm_ok ok (compB_of S) D)) (fun D => hif D (compFm_ok ok (compB_of S) D)) (fun D => he D (compFm_ok ok (compB_of S) D)) hno hgo hs hsw
end
end Mine

end
section
open PySem PySem.W PyProof.Rows PySem.Calls PySem.Spec PyProof.V PySem.SeqAt
set_option linter.unusedSimpArgs false
set_option linter.unusedVariables false
set_option autoImplicit false
set_option Elab.async false
namespace Mine
/-! ## the script; the call from the top -/
def scrE (a : Addr) (ns : List Int) (i : Nat) (k : Int) : EF := fun le σ => match (le.lo[i]?).join with
  | some (.glob a') => if a' = a ∧ 0 ≤ k ∧ ns.length ≤ 1000 then some (.ok (.ref σ.length) (σ ++ [.list ((ns.take k.toNat).map .int)])) else none
  | _ => none
section
variable {C : Ctx} {f : Fm} {n : Nat}
theorem cut_take {α : Type} (its : List α) {k : Int} (hk : 0 ≤ k) : (its.drop (kms_lo none its.length)).take (kms_hi (some k) its.length - kms_lo none its.length) = its.take k.toNat := by
  unfold kms_lo kms_hi
  dsimp only
  rw [if_neg (by omega), List.drop_zero, Nat.sub_zero]
  by_cases h : k.toNat ≤ its.length
  · rw [Nat.min_eq_left h]
  · rw [Nat.min_eq_right (by omega), List.take_length, List.take_of_length_le (by omega)]
theorem se_scr (ok : FmOk C f) {a : Addr} {ns : List Int} (hs : C.scr = some (a, ns)) (i : Nat) {x : Str} {k : Int} {j : Nat} {p p2 p3 pos : Pos} (hx : f.xs[i]? = some x) :
    SE C f n (.Subscript (.Name x p) (.Slice none (some (.Constant (.int k) j p2)) none p3) pos) (scrE a ns i k) := by
  refine ⟨?_⟩
  intro le σ r h mF m aux led A ak lc lr s Q E M P
  unfold scrE at h
  split at h <;> first | (cases h; done) | skip
  rename_i a' hv
  split at h <;> first | (cases h; done) | skip
  rename_i hh
  obtain ⟨rfl, hk, hl⟩ := hh
  cases h
  obtain ⟨its, ⟨o, ho, hc, mm, hd⟩, hi⟩ := ok.scr _ _ hs
  refine PyProof.Rows.Subscript_ ((se_local (n := n) ok hx).p le σ (.ok (.glob a') σ) (by rw [hv]; rfl) mF m aux led A ak lc lr s _ E M ?_)
  intro led1 hp1 tk1 b p1 M1 R1
  obtain rfl := R1.glob_inv
  have h4 : hp1.IsList a' its.toArray := ⟨o, M1.fr.keep _ _ ho, hc, mm, hd⟩
  have P1 := P.step (h1 := hp1) (tk1 := tk1) p1
  have e2 := hi.length
  refine wpAny_Slice (evalPart_none_step (evalPart_some_step (wpAny_Constant_int (evalPart_none_step ?_))))
  refine tail_any (h4.push _).typeIs PySem.F.slot_list_getitem.lookup ?_ rfl
  refine wpAny_getItem_list_slice (h4.push _) (Heap.IsSliceOf.new ..) .none (.int _ _) .none (by simp) ?_ (by rw [List.size_toArray, e2, sizeLine_is]; omega)
  have ec : slicePick its.toArray none (some k) none = (its.take k.toNat).toArray := by
    rw [kms_pick_eq]; unfold kms_pick
    rw [cut_take its hk]
  have rr : All2 (VR (ats led1 ++ [hp1.objs.size + 1])) ((ns.take k.toNat).map V.int) (its.take k.toNat) := by
    rw [List.map_take]; exact (intsAre_map hi).take _
  obtain ⟨led', M', p', v'⟩ := new_obj2 (s := { s with heap := hp1, toks := tk1 + 1 }) (o₁ := { cls := .type "slice", data := .fields #[.none, .int k tk1, .none] }) (ob := { cls := .type "list", data := .seq (slicePick its.toArray none (some k) none) }) (o := .list ((ns.take k.toNat).map .int)) M1 rfl
    ⟨its.take k.toNat, 0, by rw [ec], rr, by rw [sizeLine_is, List.length_map, List.length_take]; omega⟩
  rw [Heap.size_push]
  exact P1 led' _ _ _ p' M' v'
/-- the law, called from the top -/
theorem law_top {C : Ctx} {n : Nat} {s₁ : Shared} {al : Addr} {a : Addr} {ps xs : List Str} {pl pc : List (Option Nat)} {argsOf : List Value → Args} {full : List V → Option (List V)} {qual : Str} {sc : Scope} {cdv : Value} {body : List Stmt} (F : FnOk C al ps xs pl pc argsOf full qual sc cdv body)
    (X : C.K.In s₁.heap) (hg : s₁.heap.Ns mainGlobals C.mg) (hb : s₁.heap.Ns builtinsNs C.mb) (hlim : s₁.heap.NoLimit) (hmods : ∃ o, s₁.heap.get? sysModules = some o) (hscr : ∀ a ns, C.scr = some (a, ns) → ∃ its : List Value, s₁.heap.IsList a its.toArray ∧ IntsAre its ns)
    (hn : 2 + claimMargin + 2 * n < recursionLimit ∧ 7 + 16 * n + 200 ≤ 9900)
    {ev : SF} (hbody : ∀ L g A, FmOk C (fnFm0 [] s₁.heap qual sc L al cdv g A xs) → SL C (fnFm0 [] s₁.heap qual sc L al cdv g A xs) n body ev) {args : List V} {vals : List Value} {v : V} {σ' : St} (h : runF full pl pc ev args [] = some (.ok v σ'))
    (rv : All2 (VR []) args vals) {Rr : Result → Shared → Prop} (hR : ∀ L m led' h' tk val, Fr s₁.heap L h' m → VR (ats led') v val → Rr (.ok (.ret val)) { s₁ with heap := h', toks := tk }) :
    codeAny (model C.prog C.w) callerA (.call (.ref al) (argsOf vals)) Rr s₁ := by
  obtain ⟨fa, hfa, h⟩ := Option.bind_eq_some_iff.mp h
  obtain ⟨name, params, dV, kV, doc, pm, an, ct, oc, od, osl, hl, hbind⟩ := F.rec_
  obtain ⟨fv, rfv, lfa, hbt⟩ := hbind s₁ [] args vals fa X hfa rv
  have lfv : fv.length = ps.length := by rw [← rfv.length]; exact lfa
  have nm0 : ∀ n, (cellsFrom n sc.names []).map (·.1) = csOf sc := fun n => cellsFrom_names sc.names n 0 [] [] rfl
  have hroom : callerA.depth < recursionLimit := by have := hn.1; show 1 + claimMargin < _; omega
  refine codeAny_call_function hroom (X _ _ hl) rfl F.co F.gen rfl (codeRec_of X F.code) (hbt _ _ _ _ ?_)
  refine wpAny_newFunctionEnv_cells F.kind (fun y hy => ?_) fun env' he s' x => ?_
  · have hy1 : y.1 ∈ ps := (List.of_mem_zip hy).1
    rcases F.kinds _ hy1 with q | ⟨q, q2⟩
    · exact .inl q
    · refine .inr ⟨q, ?_⟩
      rw [← nm0 (s₁.heap.objs.size + 1)] at q2
      obtain ⟨p, hp, e⟩ := List.mem_map.mp q2
      have nd' : ((cellsFrom (s₁.heap.objs.size + 1) sc.names []).map (·.1)).Nodup := by rw [nm0]; exact F.nd
      have := lookup_of_mem_nodup nd' (n := p.1) (c := p.2) hp
      rw [← e, this]; rfl
  subst he
  refine ⟨hlim.keeps x.toInCall.keep, codeAny_func ?_⟩
  obtain ⟨h₁, tk, rfl, _⟩ := x.done
  have hk₁ := x.toInCall.keep
  generalize hL : s₁.heap.objs.size = L' at *
  have nd' : ((cellsFrom (L' + 1) sc.names []).map (·.1)).Nodup := by rw [nm0]; exact F.nd
  obtain ⟨cells, NC, Y⟩ := Cl.news (h₀ := s₁.heap) (L := L') (Nat.le_of_eq hL) fun n c hm => ⟨x.cell n c (lookup_of_mem_nodup nd' hm), x.above n c hm⟩
  have F' : Fr s₁.heap L' h₁ (bindL (fun y => sc.names.lookup y) (ps.zip fv) (fun _ => none)) := ⟨x.toInCall.ns, hk₁, Nat.le_of_eq hL⟩
  have okf : FmOk C (fnFm0 [] s₁.heap qual sc L' al cdv s₁.heap callerA xs) := {
    X := X, g := hg, b := hb, nolimit := hlim, mods := hmods, scr := hscr, below := below_caller _,
    frame := rfl, kind := F.kind, eframe := rfl, ekind := F.kind, eglob := rfl, ebi := rfl, xl := F.xl, xn := F.xn, cl := F.cl, hid := F.hid }
  have aokf : AOk (fnFm0 [] s₁.heap qual sc L' al cdv s₁.heap callerA xs) n (callerA.deeper (envOfC qual sc L' al cdv)) := by
    refine ⟨rfl, rfl, ?_, ?_⟩
    · show 1 + claimMargin + 1 + 2 * n < _; have := hn.1; omega
    · show 4 + 3 + 16 * n + 200 ≤ 9900; have := hn.2; omega
  have keys : cells.map (·.1) = (cellsFrom (L' + 1) sc.names []).map (·.2) := cellsAre_keys Y
  have lc : cells.length = (csOf sc).length := by
    have : (cells.map (·.1)).length = ((cellsFrom (L' + 1) sc.names []).map (·.1)).length := by rw [keys, List.length_map, List.length_map]
    rw [nm0, List.length_map] at this
    exact this
  have lpc : pc.length = (csOf sc).length := ((F.pc_ fv lfv).length).symm
  have optR : ∀ o : Option Nat, OptR (ats cells) (o.bind fun i => fa[i]?) (o.bind fun i => fv[i]?) := by
    intro o
    cases o with
    | none => trivial
    | some j =>
      show OptR _ (fa[j]?) (fv[j]?)
      cases hfj : fa[j]? with
      | none =>
        have : fv[j]? = none := by
          rw [List.getElem?_eq_none_iff] at hfj ⊢
          rw [← rfv.length]; exact hfj
        rw [this]; trivial
      | some v =>
        obtain ⟨w, hw, rw_⟩ := rfv.get hfj
        rw [hw]
        exact rw_.mono List.nil_prefix
  have lcs : (cellsFrom (L' + 1) sc.names []).length = (csOf sc).length := by
    have := congrArg List.length (nm0 (L' + 1)); rw [List.length_map] at this; omega
  have M1 : MemC C (fnFm0 [] s₁.heap qual sc L' al cdv s₁.heap callerA xs) (bindL (fun y => sc.names.lookup y) (ps.zip fv) (fun _ => none)) [] cells ([] ++ pc.map fun o => .cell (o.bind fun i => fa[i]?)) h₁ := by
    refine ⟨F', fun p hp => NC p (by simpa using hp), ?_, ?_⟩
    · rw [List.append_nil, keys]; exact cellsFrom_apart .nil (fun _ h => (nomatch h))
    · rw [List.nil_append]
      refine All2.of_get (by rw [List.length_map, lc, lpc]) fun i p o hp ho => ?_
      rw [List.getElem?_map] at ho
      obtain ⟨q, hq, rfl⟩ := Option.map_eq_some_iff.mp ho
      have hi : i < (csOf sc).length := by rw [← lpc]; exact (List.getElem?_eq_some_iff.mp hq).1
      have hi' : i < (cellsFrom (L' + 1) sc.names []).length := by omega
      obtain ⟨ob, g1, g2⟩ := cellsAre_get Y (i := i) (p := (cellsFrom (L' + 1) sc.names [])[i]) (List.getElem?_eq_getElem hi')
      rw [hp] at g1; cases g1
      have hx : (csOf sc)[i]? = some (cellsFrom (L' + 1) sc.names [])[i].1 := by rw [← nm0 (L' + 1), List.getElem?_map, List.getElem?_eq_getElem hi']; rfl
      obtain ⟨q', hq', e⟩ := (F.pc_ fv lfv).get hx
      rw [hq] at hq'; cases hq'
      refine ⟨_, g2, ?_⟩
      show OptR _ _ (bindC (fun y => sc.names.lookup y) (ps.zip fv) (fun _ => none) _)
      rw [e]
      exact optR q
  have l1 : LeR (fnFm0 [] s₁.heap qual sc L' al cdv s₁.heap callerA xs) (ats cells) (bindL (fun y => sc.names.lookup y) (ps.zip fv) (fun _ => none)) ⟨pl.map fun o => o.bind fun i => fa[i]?, (List.range pc.length).map (([] : St).length + ·)⟩ := by
    refine ⟨?_, ?_⟩
    · have hpl := F.pl_ fv lfv
      refine All2.of_get (by rw [List.length_map]; exact hpl.length) fun i x o hx ho => ?_
      rw [List.getElem?_map] at ho
      obtain ⟨q, hq, rfl⟩ := Option.map_eq_some_iff.mp ho
      obtain ⟨q', hq', e⟩ := hpl.get hx
      rw [hq] at hq'; cases hq'
      rw [e]
      exact optR q
    · show All2 _ (csOf sc) _
      refine All2.of_get (by simp [lpc]) fun i x k hx hk => ?_
      rw [List.getElem?_map] at hk
      obtain ⟨j, hj, rfl⟩ := Option.map_eq_some_iff.mp hk
      have ltj := (List.getElem?_eq_some_iff.mp hj).1
      rw [List.length_range] at ltj
      rw [List.getElem?_range ltj] at hj
      cases hj
      have hi' : i < (cellsFrom (L' + 1) sc.names []).length := by omega
      have hx' : (csOf sc)[i]? = some (cellsFrom (L' + 1) sc.names [])[i].1 := by rw [← nm0 (L' + 1), List.getElem?_map, List.getElem?_eq_getElem hi']; rfl
      rw [hx] at hx'; cases hx'
      obtain ⟨ob, g1, g2⟩ := cellsAre_get Y (i := i) (p := (cellsFrom (L' + 1) sc.names [])[i]) (List.getElem?_eq_getElem hi')
      refine ⟨(cellsFrom (L' + 1) sc.names [])[i].2, lookup_of_mem_nodup nd' (List.getElem_mem hi'), ?_⟩
      show (List.map _ cells)[([] : St).length + i]? = _
      rw [List.length_nil, Nat.zero_add, List.getElem?_map, g1]; rfl
  cases hbv : ev ⟨pl.map fun o => o.bind fun i => fa[i]?, (List.range pc.length).map (([] : St).length + ·)⟩ ([] ++ pc.map fun o => .cell (o.bind fun i => fa[i]?)) with
  | none => rw [hbv] at h; cases h
  | some rb =>
    rw [hbv] at h
    cases rb with
    | exc x lo σ => cases h
    | ok fl lo σ =>
      refine (hbody L' s₁.heap callerA okf).p _ _ _ hbv _ [] cells _ aokf rfl l1 _ _ _ M1 ?_
      intro m' led' h' tk' flv p' M' l' hf
      have fin : ∀ val, VR (ats led') v val → Rr (.ok (.ret val)) { s₁ with heap := h', toks := tk' } := fun val r => hR _ _ led' h' tk' val M'.fr r
      cases fl with
      | next => cases h; obtain rfl := hf.next_inv; exact fin _ trivial
      | ret v => cases h; obtain ⟨w, rfl, rw_⟩ := hf.ret_inv; exact fin _ rw_
      | brk => cases h
      | cont => cases h
end
end Mine

end
noncomputable section
open PySem PySem.W PyProof.Rows
set_option linter.unusedVariables false
set_option linter.unusedSimpArgs false
set_option autoImplicit false
set_option Elab.async false
set_option maxRecDepth 100000
set_option maxHeartbeats 4000000
namespace Mine
/-- an evaluation that answers, and how -/
def WR {α : Type} (r : Option (Rs α)) (Q : α → St → Prop) : Prop := ∃ v σ, r = some (.ok v σ) ∧ Q v σ
/-- a block that ends, and how -/
def WS (r : Option Rt) (Q : Fl → List (Option V) → St → Prop) : Prop := ∃ fl lo σ, r = some (.ok fl lo σ) ∧ Q fl lo σ
/-- a target that is stored, and how -/
def WT (r : Option (List (Option V) × St)) (Q : List (Option V) → St → Prop) : Prop := ∃ lo σ, r = some (lo, σ) ∧ Q lo σ
section
variable {α β : Type} {Q : α → St → Prop} {Q' : β → St → Prop} {P : Fl → List (Option V) → St → Prop}
theorem WR.ok {a : α} {σ : St} : WR (some (.ok a σ)) Q ↔ Q a σ := ⟨fun ⟨_, _, e, h⟩ => by cases e; exact h, fun h => ⟨_, _, rfl, h⟩⟩
theorem WR.mono {r : Option (Rs α)} {Q1 : α → St → Prop} (h : WR r Q1) (k : ∀ a σ, Q1 a σ → Q a σ) : WR r Q := by
  obtain ⟨v, σ, e, q⟩ := h
  exact ⟨v, σ, e, k _ _ q⟩
theorem WR.bind {r : Option (Rs α)} {k : α → St → Option (Rs β)} : WR (bindR r k) Q' ↔ WR r fun a σ => WR (k a σ) Q' := by
  constructor
  · rintro ⟨v, σ, e, q⟩
    rcases r with _ | ⟨a, σ1⟩ | ⟨x, σ1⟩
    · cases e
    · exact ⟨a, σ1, rfl, v, σ, e, q⟩
    · cases e
  · rintro ⟨a, σ1, rfl, v, σ, e, q⟩
    exact ⟨v, σ, e, q⟩
theorem WR.of_eq {r : Option (Rs α)} {a : α} {σ : St} (e : r = some (.ok a σ)) (h : Q a σ) : WR r Q := ⟨_, _, e, h⟩
theorem WR.eq {r : Option (Rs α)} (h : WR r Q) : ∃ v σ, r = some (.ok v σ) ∧ Q v σ := h
theorem WS.mono {r : Option Rt} {P1 : Fl → List (Option V) → St → Prop} (h : WS r P1) (k : ∀ fl lo σ, P1 fl lo σ → P fl lo σ) : WS r P := by
  obtain ⟨fl, lo, σ, e, q⟩ := h
  exact ⟨_, _, _, e, k _ _ _ q⟩
theorem WS.ok {fl : Fl} {lo : List (Option V)} {σ : St} : WS (some (.ok fl lo σ)) P ↔ P fl lo σ := ⟨fun ⟨_, _, _, e, h⟩ => by cases e; exact h, fun h => ⟨_, _, _, rfl, h⟩⟩
theorem WS.bindE {lo : List (Option V)} {r : Option (Rs α)} {k : α → St → Option Rt} : WS (bindE lo r k) P ↔ WR r fun a σ => WS (k a σ) P := by
  constructor
  · rintro ⟨fl, l, σ, e, q⟩
    rcases r with _ | ⟨a, σ1⟩ | ⟨x, σ1⟩
    · cases e
    · exact ⟨a, σ1, rfl, fl, l, σ, e, q⟩
    · cases e
  · rintro ⟨a, σ1, rfl, fl, l, σ, e, q⟩
    exact ⟨fl, l, σ, e, q⟩
theorem WS.nil {le : Le} {σ : St} : WS (nilL le σ) P ↔ P .next le.lo σ := WS.ok
/-- a block's first statement ends plainly -/
theorem WS.cons {a b : SF} {le : Le} {σ : St} {R : List (Option V) → St → Prop} (h : WS (a le σ) fun fl lo σ1 => fl = .next ∧ R lo σ1) (k : ∀ lo σ1, R lo σ1 → WS (b ⟨lo, le.cl⟩ σ1) P) : WS (consL a b le σ) P := by
  obtain ⟨fl, lo, σ1, e, rfl, r⟩ := h
  unfold consL
  rw [e]
  exact k _ _ r
theorem WS.consB {a b : SF} {le : Le} {σ : St} (h : WS (a le σ) fun fl lo σ1 => match fl with
      | .next => WS (b ⟨lo, le.cl⟩ σ1) P
      | _ => P fl lo σ1) : WS (consL a b le σ) P := by
  obtain ⟨fl, lo, σ1, e, r⟩ := h
  unfold consL
  rw [e]
  cases fl with
  | next => exact r
  | brk => exact ⟨_, _, _, rfl, r⟩
  | cont => exact ⟨_, _, _, rfl, r⟩
  | ret v => exact ⟨_, _, _, rfl, r⟩
variable {le : Le} {σ : St} {b : SF} {i : Nat} {e : EF}
theorem WS.asgL (h : WR (e le σ) fun v σ1 => WS (b ⟨setLo i v le.lo, le.cl⟩ σ1) P) : WS (consL (asgL i e) b le σ) P := by
  obtain ⟨v, σ1, e1, q⟩ := h
  unfold consL Mine.asgL
  rw [e1]
  exact q
theorem WS.exprS (h : WR (e le σ) fun _ σ1 => WS (b ⟨le.lo, le.cl⟩ σ1) P) : WS (consL (exprS e) b le σ) P := by
  obtain ⟨v, σ1, e1, q⟩ := h
  unfold consL Mine.exprS
  rw [e1]
  exact q
theorem WS.retS (h : WR (e le σ) fun v σ1 => P (.ret v) le.lo σ1) : WS (consL (retS e) b le σ) P := by
  obtain ⟨v, σ1, e1, q⟩ := h
  unfold consL Mine.retS
  rw [e1]
  exact ⟨_, _, _, rfl, q⟩
theorem WS.asgC {j k : Nat} {o : Option V} (h : WR (e le σ) fun v σ1 => le.cl[j]? = some k ∧ (∃ o, σ1[k]? = some (.cell o)) ∧ WS (b ⟨le.lo, le.cl⟩ (σ1.set k (.cell (some v)))) P) : WS (consL (asgC j e) b le σ) P := by
  obtain ⟨v, σ1, e1, h1, ⟨o, h2⟩, q⟩ := h
  unfold consL Mine.asgC
  rw [e1]
  simp only [Mine.bindE, cellAtV, h1, h2, Option.bind_some, Option.map_some, bindS]
  exact q
theorem WS.ifT {c : EFb} {x y : SF} (h : WR (c le σ) fun t σ1 => t = true ∧ WS (consL x b le σ1) P) : WS (consL (ifS c x y) b le σ) P := by
  obtain ⟨v, σ1, e1, rfl, q⟩ := h
  unfold consL ifS
  rw [e1]
  exact q
theorem WS.ifF {c : EFb} {x y : SF} (h : WR (c le σ) fun t σ1 => t = false ∧ WS (consL y b le σ1) P) : WS (consL (ifS c x y) b le σ) P := by
  obtain ⟨v, σ1, e1, rfl, q⟩ := h
  unfold consL ifS
  rw [e1]
  exact q
theorem WS.assert {c : EFb} (h : WR (c le σ) fun t σ1 => t = true ∧ WS (b ⟨le.lo, le.cl⟩ σ1) P) : WS (consL (assertS c) b le σ) P := by
  obtain ⟨v, σ1, e1, rfl, q⟩ := h
  unfold consL assertS
  rw [e1]
  exact q
theorem WS.augL {o : BOp} {a : V} (ha : le.lo[i]? = some (some a)) (h : WR (e le σ) fun v σ1 => WR (inpV o a v σ1) fun v σ2 => WS (b ⟨setLo i v le.lo, le.cl⟩ σ2) P) : WS (consL (Mine.augL o i e) b le σ) P := by
  obtain ⟨v, σ1, e1, v2, σ2, e2, q⟩ := h
  unfold consL Mine.augL
  rw [ha, Option.join_some, Option.bind_some, e1]
  simp only [Mine.bindE, e2]
  exact q
theorem WS.finN {x y : SF} (h : WS (x le σ) fun fl lo σ1 => WS (y ⟨lo, le.cl⟩ σ1) fun fl2 lo2 σ2 => fl2 = .next ∧ P fl lo2 σ2) : WS (Mine.finN x y le σ) P := by
  obtain ⟨fl, lo, σ1, e1, fl2, lo2, σ2, e2, rfl, q⟩ := h
  unfold Mine.finN
  rw [e1]; dsimp only; rw [e2]
  exact ⟨_, _, _, rfl, q⟩
theorem WS.tryN {x : SF} (h : WS (x le σ) P) : WS (Mine.tryN x le σ) P := by
  obtain ⟨fl, lo, σ1, e1, q⟩ := h
  unfold Mine.tryN
  rw [e1]
  exact ⟨_, _, _, rfl, q⟩
theorem WS.whileT {c : EFb} {x : SF} {k : Nat} (h : WR (c le σ) fun t σ1 => t = true ∧ WS (x le σ1) fun fl lo σ2 => match fl with
      | .next | .cont => WS (whileL c x k ⟨lo, le.cl⟩ σ2) P
      | .brk => P .next lo σ2
      | .ret v => P (.ret v) lo σ2) : WS (whileL c x (k + 1) le σ) P := by
  obtain ⟨t, σ1, e1, rfl, fl, lo, σ2, e2, q⟩ := h
  unfold whileL
  rw [e1]
  simp only [Mine.bindE, if_true, e2]
  cases fl with
  | next => exact q
  | cont => exact q
  | brk => exact ⟨_, _, _, rfl, q⟩
  | ret v => exact ⟨_, _, _, rfl, q⟩
theorem WS.whileF {c : EFb} {x : SF} {k : Nat} (h : WR (c le σ) fun t σ1 => t = false ∧ P .next le.lo σ1) : WS (whileL c x (k + 1) le σ) P := by
  obtain ⟨t, σ1, e1, rfl, q⟩ := h
  unfold whileL
  rw [e1]
  exact ⟨_, _, _, rfl, q⟩
theorem WS.nilCons : WS (consL nilL b le σ) P ↔ WS (b le σ) P := Iff.rfl
theorem WS.consAssoc {a c : SF} : WS (consL (consL a b) c le σ) P ↔ WS (consL a (consL b c) le σ) P := by
  have : consL (consL a b) c le σ = consL a (consL b c) le σ := by
    unfold consL
    dsimp only
    rcases a le σ with _ | ⟨fl, lo, σ1⟩ | ⟨x, lo, σ1⟩
    · rfl
    · cases fl <;> rfl
    · rfl
  rw [this]
theorem WS.retN : WS (consL retN b le σ) P ↔ P (.ret .none) le.lo σ := WS.ok
/-- what a call's body says of the call -/
theorem WR.runF {full : List V → Option (List V)} {pl pc : List (Option Nat)} {body : SF} {args fa : List V} {Q : V → St → Prop} (hf : full args = some fa)
    (h : WS (body ⟨pl.map fun o => o.bind fun i => fa[i]?, (List.range pc.length).map (σ.length + ·)⟩ (σ ++ pc.map fun o => .cell (o.bind fun i => fa[i]?))) fun fl lo σ1 => match fl with
      | .ret v => Q v σ1
      | .next => Q .none σ1
      | _ => False) : WR (runF full pl pc body args σ) Q := by
  obtain ⟨fl, lo, σ1, e, q⟩ := h
  unfold Mine.runF
  rw [hf]
  simp only [Option.bind_some]
  rw [e]
  cases fl with
  | next => exact ⟨_, _, rfl, q⟩
  | brk => exact q.elim
  | cont => exact q.elim
  | ret v => exact ⟨_, _, rfl, q⟩
theorem WR.runF' {full : List V → Option (List V)} {pl pc : List (Option Nat)} {body : SF} {args fa : List V} {Q : V → St → Prop} {lo : List (Option V)} {cl : List Nat} {σ' : St} (hf : full args = some fa)
    (hlo : (pl.map fun o => o.bind fun i => fa[i]?) = lo) (hcl : (List.range pc.length).map (σ.length + ·) = cl) (hs : (σ ++ pc.map fun o => .cell (o.bind fun i => fa[i]?)) = σ')
    (h : WS (body ⟨lo, cl⟩ σ') fun fl lo σ1 => match fl with
      | .ret v => Q v σ1
      | .next => Q .none σ1
      | _ => False) : WR (Mine.runF full pl pc body args σ) Q := WR.runF hf (by rw [hlo, hcl, hs]; exact h)
/-- a loop with an invariant; it may also return -/
theorem WS.forL {T : Tab} {a : V} {kd : Kd} {len : Nat} {tf : TF} {cl : List Nat} (I : Nat → List (Option V) → St → Prop) (hk : ∀ j lo σ, I j lo σ → kdOf T a σ = some (kd, len))
    (step : ∀ j lo σ, j < len → I j lo σ → ∃ v lo1 σ1, itemAt T a j σ = some v ∧ tf v ⟨lo, cl⟩ σ = some (lo1, σ1) ∧ WS (b ⟨lo1, cl⟩ σ1) fun fl lo2 σ2 => match fl with
      | .next | .cont => I (j + 1) lo2 σ2
      | .brk => P .next lo2 σ2
      | .ret v => P (.ret v) lo2 σ2)
    (done : ∀ lo σ, I len lo σ → P .next lo σ) : ∀ (k : Nat) (lo : List (Option V)) (σ : St), k ≤ len → I (len - k) lo σ → WS (forL T a kd len tf b k ⟨lo, cl⟩ σ) P
  | 0, lo, σ, _, h => by
    unfold Mine.forL
    rw [if_pos (hk _ _ _ h)]
    exact ⟨_, _, _, rfl, done _ _ (by simpa using h)⟩
  | k + 1, lo, σ, hl, h => by
    obtain ⟨v, lo1, σ1, e1, e2, fl, lo2, σ2, e3, q⟩ := step (len - (k + 1)) lo σ (by omega) h
    unfold Mine.forL
    rw [if_pos (hk _ _ _ h), e1, Option.bind_some, e2, Option.bind_some, e3]
    have e : len - (k + 1) + 1 = len - k := by omega
    cases fl with
    | next => exact WS.forL I hk step done k lo2 σ2 (by omega) (e ▸ q)
    | cont => exact WS.forL I hk step done k lo2 σ2 (by omega) (e ▸ q)
    | brk => exact ⟨_, _, _, rfl, q⟩
    | ret v => exact ⟨_, _, _, rfl, q⟩
theorem WS.forS {T : Tab} {tup : Bool} {it : EF} {tf : TF} {bd : SF} {kd : Kd} {len : Nat} {a : V} {σ1 : St} {P : Fl → List (Option V) → St → Prop} (hi : it le σ = some (.ok a σ1)) (hd : kdOf T a σ1 = some (kd, len)) (ht : tup = false ∨ kd = .list) (I : Nat → List (Option V) → St → Prop) (h0 : I 0 le.lo σ1)
    (hk : ∀ j lo σ, I j lo σ → kdOf T a σ = some (kd, len))
    (step : ∀ j lo σ, j < len → I j lo σ → ∃ v lo1 σ1, itemAt T a j σ = some v ∧ tf v ⟨lo, le.cl⟩ σ = some (lo1, σ1) ∧ WS (bd ⟨lo1, le.cl⟩ σ1) fun fl lo2 σ2 => match fl with
      | .next | .cont => I (j + 1) lo2 σ2
      | .brk => P .next lo2 σ2
      | .ret v => P (.ret v) lo2 σ2)
    (done : ∀ lo σ, I len lo σ → P .next lo σ) : WS (Mine.forS T tup it tf bd le σ) P := by
  unfold Mine.forS
  rw [hi]
  show WS ((kdOf T a σ1).bind _) P
  rw [hd, Option.bind_some, if_pos (by simpa using ht)]
  obtain ⟨lo, cl⟩ := le
  exact WS.forL I hk step done len lo σ1 (Nat.le_refl _) (by simpa using h0)
/-- a list display with an invariant -/
theorem compL_ok {T : Tab} {a : V} {kd : Kd} {len : Nat} {tf : TF} {test : Option EFb} {elt : EF} {cl : List Nat} (I : Nat → List (Option V) → St → List V → Prop) (hk : ∀ j lo σ ys, I j lo σ ys → kdOf T a σ = some (kd, len))
    (step : ∀ j lo σ ys, j < len → I j lo σ ys → ys.length < 16777216 ∧ ∃ v lo1 σ1, itemAt T a j σ = some v ∧ tf v ⟨lo, cl⟩ σ = some (lo1, σ1) ∧ WR (testE test ⟨lo1, cl⟩ σ1) fun t σ2 => if t then WR (elt ⟨lo1, cl⟩ σ2) fun y σ3 => I (j + 1) lo1 σ3 (ys ++ [y]) else I (j + 1) lo1 σ2 ys) :
    ∀ (k : Nat) (lo : List (Option V)) (σ : St) (ys : List V), k ≤ len → I (len - k) lo σ ys → ∃ σ' ys' lo', compL T a kd len tf test elt k ⟨lo, cl⟩ σ ys = some (σ', ys') ∧ I len lo' σ' ys'
  | 0, lo, σ, ys, _, h => by
    unfold compL
    rw [if_pos (hk _ _ _ _ h)]
    exact ⟨_, _, lo, rfl, by simpa using h⟩
  | k + 1, lo, σ, ys, hl, h => by
    obtain ⟨hy, v, lo1, σ1, e1, e2, t, σ2, e3, q⟩ := step (len - (k + 1)) lo σ ys (by omega) h
    unfold compL
    rw [if_pos (hk _ _ _ _ h), e1, Option.bind_some, e2, Option.bind_some]
    dsimp only
    rw [e3]
    have e : len - (k + 1) + 1 = len - k := by omega
    cases t with
    | false => exact compL_ok I hk step k lo1 σ2 ys (by omega) (e ▸ q)
    | true =>
      obtain ⟨y, σ3, e4, q4⟩ := q
      dsimp only
      rw [e4]
      dsimp only
      rw [if_pos hy]
      exact compL_ok I hk step k lo1 σ3 _ (by omega) (e ▸ q4)
theorem compR_ok {T : Tab} {tup : Bool} {nl no : Nat} {fr : List Nat} {a : V} {kd : Kd} {len : Nat} {tf : TF} {test : Option EFb} {elt : EF} {σ1 : St} (hd : kdOf T a σ1 = some (kd, len)) (ht : tup = false ∨ kd = .list) (I : Nat → List (Option V) → St → List V → Prop)
    (h0 : I 0 (List.replicate nl none) (σ1 ++ List.replicate no (.cell none)) []) (hk : ∀ j lo σ ys, I j lo σ ys → kdOf T a σ = some (kd, len))
    (step : ∀ j lo σ ys, j < len → I j lo σ ys → ys.length < 16777216 ∧ ∃ v lo1 σ2, itemAt T a j σ = some v ∧ tf v ⟨lo, (List.range no).map (σ1.length + ·) ++ fr.map fun j => (le.cl[j]?).getD 0⟩ σ = some (lo1, σ2) ∧ WR (testE test ⟨lo1, (List.range no).map (σ1.length + ·) ++ fr.map fun j => (le.cl[j]?).getD 0⟩ σ2) fun t σ3 => if t then WR (elt ⟨lo1, (List.range no).map (σ1.length + ·) ++ fr.map fun j => (le.cl[j]?).getD 0⟩ σ3) fun y σ4 => I (j + 1) lo1 σ4 (ys ++ [y]) else I (j + 1) lo1 σ3 ys) :
    ∃ σ' ys' lo', compR T tup nl no fr tf test elt le a σ1 = some (σ', ys') ∧ I len lo' σ' ys' := by
  unfold compR
  rw [hd, Option.bind_some, if_pos (by simpa using ht)]
  exact compL_ok I hk step len _ _ _ (Nat.le_refl _) (by simpa using h0)
theorem WR.compE {T : Tab} {tup : Bool} {it : EF} {nl no : Nat} {fr : List Nat} {a : V} {kd : Kd} {len : Nat} {tf : TF} {test : Option EFb} {elt : EF} {σ1 : St} {Q : V → St → Prop} (hi : it le σ = some (.ok a σ1)) (hd : kdOf T a σ1 = some (kd, len)) (ht : tup = false ∨ kd = .list) (I : Nat → List (Option V) → St → List V → Prop)
    (h0 : I 0 (List.replicate nl none) (σ1 ++ List.replicate no (.cell none)) []) (hk : ∀ j lo σ ys, I j lo σ ys → kdOf T a σ = some (kd, len))
    (step : ∀ j lo σ ys, j < len → I j lo σ ys → ys.length < 16777216 ∧ ∃ v lo1 σ2, itemAt T a j σ = some v ∧ tf v ⟨lo, (List.range no).map (σ1.length + ·) ++ fr.map fun j => (le.cl[j]?).getD 0⟩ σ = some (lo1, σ2) ∧ WR (testE test ⟨lo1, (List.range no).map (σ1.length + ·) ++ fr.map fun j => (le.cl[j]?).getD 0⟩ σ2) fun t σ3 => if t then WR (elt ⟨lo1, (List.range no).map (σ1.length + ·) ++ fr.map fun j => (le.cl[j]?).getD 0⟩ σ3) fun y σ4 => I (j + 1) lo1 σ4 (ys ++ [y]) else I (j + 1) lo1 σ3 ys)
    (done : ∀ lo σ ys, I len lo σ ys → Q (.ref σ.length) (σ ++ [.list ys])) : WR (Mine.compE T tup it nl no fr tf test elt le σ) Q := by
  obtain ⟨σ', ys', lo', e, q⟩ := compR_ok (le := le) hd ht I h0 hk step
  unfold Mine.compE
  rw [hi]
  show WR ((compR T tup nl no fr tf test elt le a σ1).map _) Q
  rw [e]
  exact ⟨_, _, rfl, done _ _ _ q⟩
end
theorem All2.mapR {α β γ : Type} {R : α → β → Prop} {S : α → γ → Prop} (f : β → γ) (h : ∀ a b, R a b → S a (f b)) : ∀ {as : List α} {bs : List β}, All2 R as bs → All2 S as (bs.map f)
  | [], [], _ => trivial
  | _ :: _, _ :: _, ⟨h1, h2⟩ => ⟨h _ _ h1, All2.mapR f h h2⟩
theorem All2.impM {α β : Type} {R S : α → β → Prop} : ∀ {as : List α} {bs : List β}, All2 R as bs → (∀ a b, b ∈ bs → R a b → S a b) → All2 S as bs
  | [], [], _, _ => trivial
  | _ :: _, _ :: _, ⟨h1, h2⟩, h => ⟨h _ _ (List.mem_cons_self ..) h1, h2.impM fun a b m r => h a b (List.mem_cons_of_mem _ m) r⟩
/-- what stays: whatever is not of S, and every instance and tuple -/
def O.fixed : O → Bool
  | .tup _ => true
  | .inst _ _ => true
  | .rng _ _ => true
  | _ => false
structure Keep (S : Nat → Prop) (σ σ' : St) : Prop where
  at_ : ∀ i o, σ[i]? = some o → o.fixed = true ∨ ¬ S i → σ'[i]? = some o
  len : σ.length ≤ σ'.length
theorem lt_of_get {σ : St} {i : Nat} {o : O} (h : σ[i]? = some o) : i < σ.length := by
  rcases Nat.lt_or_ge i σ.length with h1 | h1
  · exact h1
  · rw [List.getElem?_eq_none h1] at h; cases h
theorem Keep.refl (S : Nat → Prop) (σ : St) : Keep S σ σ := ⟨fun _ _ h _ => h, Nat.le_refl _⟩
theorem Keep.app (S : Nat → Prop) (σ τ : St) : Keep S σ (σ ++ τ) := ⟨fun i o h _ => by rw [List.getElem?_append_left (lt_of_get h)]; exact h, by simp⟩
theorem Keep.trans {S S' : Nat → Prop} {σ σ' σ'' : St} (h : Keep S σ σ') (k : Keep S' σ' σ'') (hs : ∀ i, i < σ.length → S' i → S i) : Keep S σ σ'' :=
  ⟨fun i o e d => k.at_ i o (h.at_ i o e d) (d.imp id fun d s => d (hs i (lt_of_get e) s)), Nat.le_trans h.len k.len⟩
theorem Keep.set {S : Nat → Prop} {σ : St} {i : Nat} {o o' : O} (h : σ[i]? = some o) (hf : o.fixed = false) (hs : S i) : Keep S σ (σ.set i o') :=
  ⟨fun j x e d => by
    by_cases hj : i = j
    · subst hj
      rw [h] at e; cases e
      exact (d.elim (fun d => by rw [hf] at d; cases d) (fun d => (d hs).elim))
    · rw [List.getElem?_set_ne hj]; exact e, by simp⟩
theorem Keep.weak {S S' : Nat → Prop} {σ σ' : St} (h : Keep S σ σ') (hs : ∀ i, S i → S' i) : Keep S' σ σ' := ⟨fun i o e d => h.at_ i o e (d.imp id fun d s => d (hs i s)), h.len⟩
theorem get_app {σ τ : St} {i : Nat} {o : O} (h : σ[i]? = some o) : (σ ++ τ)[i]? = some o := by rw [List.getElem?_append_left (lt_of_get h)]; exact h
theorem get_set {σ : St} {i : Nat} {o o' : O} (h : σ[i]? = some o) : (σ.set i o')[i]? = some o' := by rw [List.getElem?_set_self (lt_of_get h)]
theorem get_set_ne {σ : St} {i j : Nat} {o o' : O} (n : i ≠ j) (h : σ[j]? = some o) : (σ.set i o')[j]? = some o := by rw [List.getElem?_set_ne n]; exact h
end Mine

end
noncomputable section
open PySem PySem.W PyProof.Rows
set_option linter.unusedVariables false
set_option linter.unusedSimpArgs false
set_option autoImplicit false
set_option Elab.async false
set_option maxRecDepth 100000
set_option maxHeartbeats 1000000
namespace Mine
section
variable {Q : V → St → Prop} {QB : Bool → St → Prop} {Qs : List V → St → Prop} {P : Fl → List (Option V) → St → Prop} {le : Le} {σ : St} {T : Tab} {call : CallF}
theorem WR.binE {o : BOp} {e1 e2 : EF} (h : WR (e1 le σ) fun a σ1 => WR (e2 le σ1) fun b σ2 => WR (binV o a b σ2) Q) : WR (Mine.binE o e1 e2 le σ) Q := by
  unfold Mine.binE
  simp only [WR.bind]; exact h
theorem WR.cmpE {o : COp} {e1 e2 : EF} (h : WR (e1 le σ) fun a σ1 => WR (e2 le σ1) fun b σ2 => WR (cmpV T call o a b σ2) Q) : WR (Mine.cmpE T call o e1 e2 le σ) Q := by
  unfold Mine.cmpE
  simp only [WR.bind]; exact h
theorem WR.subE {e1 e2 : EF} (h : WR (e1 le σ) fun a σ1 => WR (e2 le σ1) fun b σ2 => WR (getV T a b σ2) Q) : WR (Mine.subE T e1 e2 le σ) Q := by
  unfold Mine.subE
  simp only [WR.bind]; exact h
theorem WR.negE {e : EF} (h : WR (e le σ) fun a σ1 => WR (negV a σ1) Q) : WR (Mine.negE e le σ) Q := by
  unfold Mine.negE
  simp only [WR.bind]; exact h
theorem WR.truE {e : EF} (h : WR (e le σ) fun a σ1 => WR (truV a σ1) QB) : WR (Mine.truE e le σ) QB := by
  unfold Mine.truE
  simp only [WR.bind]; exact h
theorem WR.notB {e : EFb} (h : WR (e le σ) fun a σ1 => QB (!a) σ1) : WR (Mine.notB e le σ) QB := by
  unfold Mine.notB
  simp only [WR.bind, WR.ok]; exact h
theorem WR.orF {e1 e2 : EFb} (h : WR (e1 le σ) fun a σ1 => a = false ∧ WR (e2 le σ1) QB) : WR (orB e1 e2 le σ) QB := by
  unfold orB
  rw [WR.bind]
  exact h.mono fun a σ1 ⟨e, h⟩ => by subst e; exact h
theorem WR.orT {e1 e2 : EFb} (h : WR (e1 le σ) fun a σ1 => a = true ∧ QB true σ1) : WR (orB e1 e2 le σ) QB := by
  unfold orB
  rw [WR.bind]
  exact h.mono fun a σ1 ⟨e, h⟩ => by subst e; exact WR.ok.2 h
theorem WR.ffB (h : QB false σ) : WR (Mine.ffB le σ) QB := WR.ok.2 h
theorem WR.iteT {c : EFb} {e1 e2 : EF} (h : WR (c le σ) fun a σ1 => a = true ∧ WR (e1 le σ1) Q) : WR (iteE c e1 e2 le σ) Q := by
  unfold iteE
  rw [WR.bind]
  exact h.mono fun a σ1 ⟨e, h⟩ => by subst e; exact h
theorem WR.iteF {c : EFb} {e1 e2 : EF} (h : WR (c le σ) fun a σ1 => a = false ∧ WR (e2 le σ1) Q) : WR (iteE c e1 e2 le σ) Q := by
  unfold iteE
  rw [WR.bind]
  exact h.mono fun a σ1 ⟨e, h⟩ => by subst e; exact h
theorem WR.consS {e : EF} {es : EFs} (h : WR (e le σ) fun a σ1 => WR (es le σ1) fun as σ2 => Qs (a :: as) σ2) : WR (Mine.consS e es le σ) Qs := by
  unfold Mine.consS
  simp only [WR.bind, WR.ok]; exact h
theorem WR.nilS (h : Qs [] σ) : WR (Mine.nilS le σ) Qs := WR.ok.2 h
theorem WR.listE {es : EFs} (h : WR (es le σ) fun vs σ1 => vs.length ≤ 16777216 ∧ Q (.ref σ1.length) (σ1 ++ [.list vs])) : WR (Mine.listE es le σ) Q := by
  unfold Mine.listE
  rw [WR.bind]
  exact h.mono fun a σ1 ⟨e, h⟩ => by rw [if_pos e]; exact WR.ok.2 h
theorem WR.tupE {es : EFs} (h : WR (es le σ) fun vs σ1 => vs.length ≤ 16777216 ∧ Q (.ref σ1.length) (σ1 ++ [.tup vs])) : WR (Mine.tupE es le σ) Q := by
  unfold Mine.tupE
  rw [WR.bind]
  exact h.mono fun a σ1 ⟨e, h⟩ => by rw [if_pos e]; exact WR.ok.2 h
theorem WR.callE {g : Nat} {es : EFs} (h : WR (es le σ) fun vs σ1 => WR (call g vs σ1) Q) : WR (Mine.callE call g es le σ) Q := by
  unfold Mine.callE
  simp only [WR.bind]; exact h
theorem WR.biE {bv : List V → St → Option (Rs V)} {es : EFs} (h : WR (es le σ) fun vs σ1 => WR (bv vs σ1) Q) : WR (Mine.biE bv es le σ) Q := by
  unfold Mine.biE
  simp only [WR.bind]; exact h
theorem WR.lmE {bv : List V → St → Option (Rs V)} {o : EF} {es : EFs} (h : WR (o le σ) fun a σ1 => listAtV a σ1 = true ∧ WR (es le σ1) fun vs σ2 => WR (bv (a :: vs) σ2) Q) : WR (Mine.lmE bv o es le σ) Q := by
  unfold Mine.lmE
  rw [WR.bind]
  exact h.mono fun a σ1 ⟨e, h⟩ => by rw [if_pos e, WR.bind]; exact h
theorem WR.attrE {i : Nat} {e : EF} (h : WR (e le σ) fun a σ1 => WR (attrV T i a σ1) Q) : WR (Mine.attrE T i e le σ) Q := by
  unfold Mine.attrE
  simp only [WR.bind]; exact h
theorem WR.methE {m : Nat} {o : EF} {es : EFs} (h : WR (o le σ) fun a σ1 => ∃ k g, methV T m a σ1 = some (k, g) ∧ WR (es le σ1) fun vs σ2 => WR (call g (.ref k :: vs) σ2) Q) : WR (Mine.methE T call m o es le σ) Q := by
  unfold Mine.methE
  rw [WR.bind]
  exact h.mono fun a σ1 ⟨k, g, e, h⟩ => by rw [e]; exact WR.bind.2 h
theorem WR.newE {c : Addr} {g : Nat} {es : EFs} (h : WR (es le σ) fun vs σ1 => WR (newV call c g vs σ1) Q) : WR (Mine.newE call c g es le σ) Q := by
  unfold Mine.newE
  simp only [WR.bind]; exact h
theorem WR.sliceE {e : EF} {lo hi : Option EF} (h : WR (e le σ) fun a σ1 => WR (partE lo le σ1) fun l σ2 => WR (partE hi le σ2) fun u σ3 => WR (sliceV T a l u σ3) Q) : WR (Mine.sliceE T e lo hi le σ) Q := by
  unfold Mine.sliceE
  simp only [WR.bind]; exact h
theorem WR.dict0 (h : Q (.ref σ.length) (σ ++ [.dict [] (some 0)])) : WR (Mine.dict0 le σ) Q := WR.ok.2 h
theorem WR.locE {i : Nat} {v : V} (h : le.lo[i]? = some (some v)) (q : Q v σ) : WR (Mine.locE i le σ) Q := ⟨v, σ, by simp [Mine.locE, h], q⟩
theorem WR.celE {j k : Nat} {v : V} (h : le.cl[j]? = some k) (h' : σ[k]? = some (.cell (some v))) (q : Q v σ) : WR (Mine.celE j le σ) Q := ⟨v, σ, by simp [Mine.celE, h, h'], q⟩
theorem WR.intE {i : Int} (q : Q (.int i) σ) : WR (Mine.intE i le σ) Q := WR.ok.2 q
theorem WR.boolE {i : Bool} (q : Q (.bool i) σ) : WR (Mine.boolE i le σ) Q := WR.ok.2 q
theorem WR.noneE (q : Q .none σ) : WR (Mine.noneE le σ) Q := WR.ok.2 q
theorem WR.gloE {v : V} (q : Q v σ) : WR (Mine.gloE v le σ) Q := WR.ok.2 q
theorem WR.partN (q : Q .none σ) : WR (partE none le σ) Q := WR.ok.2 q
theorem idx_nat {n m : Nat} {i : Int} (e : i = n) (h : n < m) : idx m i = some n := by
  subst e
  unfold idx
  rw [if_pos (by omega), if_pos (by omega)]
  simp
theorem idx_neg {n m : Nat} {i : Int} (e : i = (n : Int) - m) (h : n < m) : idx m i = some n := by
  subst e
  unfold idx
  rw [if_neg (by omega), if_pos (by omega)]
  congr 1
  omega
theorem WR.getL {k : Nat} {vs : List V} {v : V} {i : Int} (h : σ[k]? = some (.list vs)) (n : Nat) (hi : i = n) (hv : vs[n]? = some v) (q : Q v σ) : WR (getV T (.ref k) (.int i) σ) Q := by
  have hn : n < vs.length := by
    rcases Nat.lt_or_ge n vs.length with h | h
    · exact h
    · rw [List.getElem?_eq_none h] at hv; cases hv
  refine ⟨v, σ, ?_, q⟩
  simp only [getV, h, idx_nat hi hn, Option.bind_some, hv, Option.map_some]
theorem WR.getG {a : Addr} {vs : List V} {v : V} {i : Int} (h : T.tups a = some vs) (n : Nat) (hi : i = n) (hv : vs[n]? = some v) (q : Q v σ) : WR (getV T (.glob a) (.int i) σ) Q := by
  have hn : n < vs.length := by
    rcases Nat.lt_or_ge n vs.length with h | h
    · exact h
    · rw [List.getElem?_eq_none h] at hv; cases hv
  refine ⟨v, σ, ?_, q⟩
  simp only [getV, h, idx_nat hi hn, Option.bind_some, hv, Option.map_some]
theorem WR.getD {k : Nat} {kvs : List (Int × V)} {ep : Option Nat} {v : V} {i j : Int} (h : σ[k]? = some (.dict kvs ep)) (hv : (kvs.find? fun p => p.1 == i) = some (j, v)) (q : Q v σ) : WR (getV T (.ref k) (.int i) σ) Q := by
  refine ⟨v, σ, ?_, q⟩
  simp only [getV, h, hv, Option.map_some]
theorem WR.app {k : Nat} {vs : List V} {v : V} (h : σ[k]? = some (.list vs)) (hz : vs.length < 16777216) (q : Q .none (σ.set k (.list (vs ++ [v])))) : WR (appV [.ref k, v] σ) Q := by
  refine ⟨_, _, ?_, q⟩
  simp only [appV, h, hz, if_true]
theorem WR.lenL {k : Nat} {vs : List V} (h : σ[k]? = some (.list vs)) (q : Q (.int vs.length) σ) : WR (lenV T [.ref k] σ) Q := by
  refine ⟨_, _, ?_, q⟩
  simp only [lenV, h]
theorem WR.range1 {i : Int} (q : Q (.ref σ.length) (σ ++ [.rng 0 i])) : WR (rangeV [.int i] σ) Q := ⟨_, _, rfl, q⟩
theorem WR.range2 {i j : Int} (q : Q (.ref σ.length) (σ ++ [.rng i j])) : WR (rangeV [.int i, .int j] σ) Q := ⟨_, _, rfl, q⟩
theorem WR.slice {k : Nat} {vs : List V} {lo hi : V} {l h : Option Int} (h0 : σ[k]? = some (.list vs)) (h1 : partV lo = some l) (h2 : partV hi = some h) (q : Q (.ref σ.length) (σ ++ [.list (cutV vs l h)])) : WR (sliceV T (.ref k) lo hi σ) Q := by
  refine ⟨_, _, ?_, q⟩
  simp only [sliceV, h0, h1, h2, Option.bind_some, Option.map_some]
theorem WR.addL {i j : Nat} {us vs : List V} (h1 : σ[i]? = some (.list us)) (h2 : σ[j]? = some (.list vs)) (hz : us.length + vs.length ≤ 16777216) (q : Q (.ref σ.length) (σ ++ [.list (us ++ vs)])) : WR (binV .add (.ref i) (.ref j) σ) Q := by
  refine ⟨_, _, ?_, q⟩
  simp only [binV, h1, h2, hz, if_true]
theorem WR.add {i j : Int} (q : Q (.int (i + j)) σ) : WR (binV .add (.int i) (.int j) σ) Q := ⟨_, _, rfl, q⟩
theorem WR.sub {i j : Int} (q : Q (.int (i - j)) σ) : WR (binV .sub (.int i) (.int j) σ) Q := ⟨_, _, rfl, q⟩
theorem WR.mul {i j : Int} (hs : (small i || small j) = true) (q : Q (.int (i * j)) σ) : WR (binV .mul (.int i) (.int j) σ) Q := by
  refine ⟨_, _, ?_, q⟩
  simp only [binV, hs, if_true]
theorem WR.fdiv {i j : Int} (h : j ≠ 0) (hs : small j = true) (q : Q (.int (i.fdiv j)) σ) : WR (binV .fdiv (.int i) (.int j) σ) Q := by
  refine ⟨_, _, ?_, q⟩
  simp only [binV, hs, h, ne_eq, not_false_eq_true, and_self, if_true]
theorem WR.mod {i j : Int} (h : j ≠ 0) (q : Q (.int (i.fmod j)) σ) : WR (binV .mod (.int i) (.int j) σ) Q := by
  refine ⟨_, _, ?_, q⟩
  simp only [binV, h, ne_eq, not_false_eq_true, if_true]
theorem small_of {i : Int} (h : -1073741824 < i) (h' : i < 1073741824) : small i = true := decide_eq_true (by omega)
theorem kd_rng {k : Nat} {a b : Int} {n : Nat} (h : σ[k]? = some (.rng a b)) (ha : small a = true) (hb : small b = true) (e : b = a + n) : kdOf T (.ref k) σ = some (.rng a, n) := by
  simp only [kdOf, h, ha, hb, Bool.and_self, if_true]
  congr 2
  omega
theorem it_rng {k j : Nat} {a b : Int} (h : σ[k]? = some (.rng a b)) : itemAt T (.ref k) j σ = some (.int (a + j)) := by
  simp only [itemAt, h]
theorem kd_list {k : Nat} {vs : List V} (h : σ[k]? = some (.list vs)) : kdOf T (.ref k) σ = some (.list, vs.length) := by
  simp only [kdOf, h]
theorem it_list {k j : Nat} {vs : List V} (h : σ[k]? = some (.list vs)) : itemAt T (.ref k) j σ = vs[j]? := by
  simp only [itemAt, h]
theorem tgC_eq {j k : Nat} {o : Option V} {v : V} (h : le.cl[j]? = some k) (h' : σ[k]? = some (.cell o)) : tgC j v le σ = some (le.lo, σ.set k (.cell (some v))) := by
  simp only [tgC, cellAtV, h, h', Option.bind_some, Option.map_some]
theorem getElem?_len (σ : St) (o : O) : (σ ++ [o])[σ.length]? = some o := by simp
theorem Keep.of_new {S : Nat → Prop} {σ σ' : St} (h : Keep S σ σ') (hs : ∀ i, i < σ.length → ¬ S i) : Keep (fun _ => False) σ σ' := ⟨fun i o e _ => h.at_ i o e (.inr (hs i (lt_of_get e))), h.len⟩
theorem Keep.get {S : Nat → Prop} {σ σ' : St} (h : Keep S σ σ') {i : Nat} {o : O} (e : σ[i]? = some o) (hs : ¬ S i) : σ'[i]? = some o := h.at_ i o e (.inr hs)
theorem Keep.getF {σ σ' : St} (h : Keep (fun _ => False) σ σ') {i : Nat} {o : O} (e : σ[i]? = some o) : σ'[i]? = some o := h.at_ i o e (.inr fun h => h)
theorem Keep.getX {S : Nat → Prop} {σ σ' : St} (h : Keep S σ σ') {i : Nat} {o : O} (e : σ[i]? = some o) (hs : o.fixed = true) : σ'[i]? = some o := h.at_ i o e (.inl hs)
theorem Keep.addF {S : Nat → Prop} {σ σ' σ'' : St} (h : Keep S σ σ') (k : Keep (fun _ => False) σ' σ'') : Keep S σ σ'' := h.trans k fun _ _ h => h.elim
theorem Keep.then {S : Nat → Prop} {σ σ' σ'' : St} (h : Keep S σ σ') (k : Keep S σ' σ'') : Keep S σ σ'' := h.trans k fun _ _ h => h
end
end Mine

end
section
open PySem PySem.W PyProof.Rows
set_option maxRecDepth 100000
set_option maxHeartbeats 8000000
open_top Mine.hd for PySem.Challenge.rw_ez5009_03
end
noncomputable section
open PySem PySem.W PyProof.Rows PySem.Calls PySem.Spec PyProof.V PySem.SeqAt
set_option linter.unusedVariables false
set_option autoImplicit false
set_option Elab.async false
set_option maxRecDepth 100000
set_option maxHeartbeats 8000000
namespace Mine
namespace L3
abbrev KK (P : Params) : Frag := hd.heap_39 P
abbrev fuel : Nat := 100000
def tab : Tab where
  addr := fun g => match g with | 0 => 28 | 1 => 35 | 2 => 42 | 3 => 155 | 4 => 162 | 5 => 171 | 6 => 179 | 7 => 186 | 8 => 201 | 9 => 215 | 10 => 229 | 11 => 272 | 12 => 279 | 13 => 286 | 14 => 294 | 15 => 316 | 16 => 337 | 17 => 344 | 18 => 367 | 19 => 374 | 20 => 381 | 21 => 388 | 22 => 393 | 23 => 155 | _ => 0
  kw := fun g => match g with | 23 => some (1, ["stream_id", "weight"]) | _ => none
  mth := fun c m => match c, m with | 253, 2 => some 3 | 253, 3 => some 6 | 253, 4 => some 7 | 253, 6 => some 8 | 253, 1 => some 9 | 253, 0 => some 10 | 347, 2 => some 11 | 347, 7 => some 12 | 347, 8 => some 13 | 347, 9 => some 14 | 347, 12 => some 15 | 347, 14 => some 16 | 347, 15 => some 17 | _, _ => none
  isCls := fun c => c == 253 || c == 347
  prop := fun c => match c with | 253 => some (4, 5) | _ => none
  tups := fun a => match a with | 352 => some [.int 0, .int 1, .int 0, .int 2, .int 1, .int 4, .int 3, .int 7, .int 1] | 361 => some [.glob 353, .glob 354, .glob 355, .glob 356, .glob 357, .glob 358, .glob 359, .glob 360] | 353 => some [.int 1, .int 1, .int 1, .int 0] | 354 => some [.int 1, .int 1, .int 0, .int 1] | 355 => some [.int 2, .int 0, .int 1, .int 0] | 356 => some [.int 0, .int 2, .int 0, .int 1] | 357 => some [.int 1, .int 0, .int 1, .int 1] | 358 => some [.int 0, .int 1, .int 2, .int 0] | 359 => some [.int 1, .int 0, .int 0, .int 1] | 360 => some [.int 0, .int 1, .int 1, .int 0] | 362 => some [.int 1, .int 2, .int 4, .int 8, .int 16, .int 32, .int 64, .int 128] | _ => none
abbrev T : Tab := tab
structure Gl (C : Ctx) : Prop where
  K : C.K = KK C.w.params
  g_PriorityTree : GV C "PriorityTree" (.ref 347)
  g_Stream : GV C "Stream" (.ref 253)
  g__LAW_LANES : GV C "_LAW_LANES" (.ref 361)
  g__LAW_MEASURES : GV C "_LAW_MEASURES" (.ref 362)
  g__LAW_OWN : GV C "_LAW_OWN" (.ref 352)
  g__ahead : GV C "_ahead" (.ref 28)
  g__law_common : GV C "_law_common" (.ref 374)
  g__law_det : GV C "_law_det" (.ref 367)
  g__law_step : GV C "_law_step" (.ref 381)
  g__law_walk : GV C "_law_walk" (.ref 388)
  g_bool : GV C "bool" (.type "bool")
  g_heappop : GV C "heappop" (.ref 42)
  g_heappush : GV C "heappush" (.ref 35)
  g_int : GV C "int" (.type "int")
  g_isinstance : GV C "isinstance" (.builtin "isinstance")
  g_len : GV C "len" (.builtin "len")
  g_list : GV C "list" (.type "list")
  g_range : GV C "range" (.type "range")
  g_sorted : GV C "sorted" (.builtin "sorted")
  g_sum : GV C "sum" (.builtin "sum")
theorem Gl.keep {C : Ctx} (G : Gl C) (a : Addr) (h : keepIn (KK C.w.params) (.ref a) = true) : keepIn C.K (.ref a) = true := by rw [G.K]; exact h
def ev__ahead (call : CallF) : SF :=
 (consL (ifS (truE (cmpE T call .ne (subE T (locE 0) (intE 0)) (subE T (locE 1) (intE 0))))
 (consL (retS (cmpE T call .lt (subE T (locE 0) (intE 0)) (subE T (locE 1) (intE 0))))
 nilL)
 nilL)
 (consL (retS (cmpE T call .lt (subE T (locE 0) (intE 1)) (subE T (locE 1) (intE 1))))
 nilL))
def ev_heappush (call : CallF) : SF :=
 (consL (asgL 2 (biE (lenV T) (consS (locE 0) nilS)))
 (consL (whileL (andB (truE (cmpE T call .gt (locE 2) (intE 0))) (andB (truE (callE call 0 (consS (locE 1) (consS (subE T (locE 0) (binE .sub (locE 2) (intE 1))) nilS)))) ttB))
 (consL (augL .sub 2 (intE 1))
 nilL) fuel)
 (consL (exprS (lmE insV (locE 0) (consS (locE 2) (consS (locE 1) nilS))))
 nilL)))
def ev_heappop (call : CallF) : SF :=
 (consL (retS (lmE popV (locE 0) (consS (intE 0) nilS)))
 nilL)
def ev_Stream___init__ (call : CallF) : SF :=
 (consL (asgA T 0 (locE 0) (locE 1))
 (consL (asgP T call (locE 0) (locE 2))
 (consL (asgA T 2 (locE 0) (listE nilS))
 (consL (asgA T 3 (locE 0) noneE)
 (consL (asgA T 4 (locE 0) (listE nilS))
 (consL (asgA T 5 (locE 0) (boolE true))
 (consL (asgA T 6 (locE 0) (intE 0))
 (consL (asgA T 7 (locE 0) (intE 0))
 nilL))))))))
def ev_Stream_weight (call : CallF) : SF :=
 (consL (retS (attrE T 1 (locE 0)))
 nilL)
def ev_Stream_weight_set (call : CallF) : SF :=
 (consL (ifS (notB (truE (biE (isiV T) (consS (locE 1) (consS (gloE (.ty "int")) nilS)))))
 (consL noS
 nilL)
 (consL (ifS (notB (chainB T call .le .le (intE 1) (locE 1) (intE 256)))
 (consL noS
 nilL)
 nilL)
 nilL))
 (consL (asgA T 1 (locE 0) (locE 1))
 nilL))
def ev_Stream_add_child (call : CallF) : SF :=
 (consL (asgA T 3 (locE 1) (locE 0))
 (consL (exprS (lmE appV (attrE T 2 (locE 0)) (consS (locE 1) nilS)))
 (consL (exprS (callE call 1 (consS (attrE T 4 (locE 0)) (consS (tupE (consS (attrE T 6 (locE 0)) (consS (locE 1) nilS))) nilS))))
 nilL)))
def ev_Stream_add_child_exclusive (call : CallF) : SF :=
 (consL (asgL 2 (attrE T 2 (locE 0)))
 (consL (asgA T 2 (locE 0) (listE nilS))
 (consL (asgA T 4 (locE 0) (listE nilS))
 (consL (asgA T 6 (locE 0) (intE 0))
 (consL (exprS (methE T call 3 (locE 0) (consS (locE 1) nilS)))
 (consL (forS T false (locE 2) (tgL 3)
 (consL (exprS (methE T call 3 (locE 1) (consS (locE 3) nilS)))
 nilL))
 nilL))))))
def ev_Stream_schedule (call : CallF) : SF :=
 (consL (assertS (notB (truE (attrE T 5 (locE 0)))))
 (consL (asgL 1 noneE)
 (consL (asgL 2 (listE nilS))
 (consL (finN (consL (whileL (truE (cmpE T call .is_ (locE 1) noneE))
 (consL (asgL 3 (callE call 2 (consS (attrE T 4 (locE 0)) nilS)))
 (consL (exprS (lmE appV (locE 2) (consS (locE 3) nilS)))
 (consL (asgTE [tgL 4, tgL 5] (locE 3))
 (consL (ifS (truE (attrE T 5 (locE 5)))
 (consL (asgL 1 (attrE T 0 (locE 5)))
 nilL)
 (consL (tryN (consL (asgL 1 (methE T call 6 (locE 5) nilS))
 nilL))
 nilL))
 nilL)))) fuel)
 nilL)
 (consL (forS T true (locE 2) (tgT [tgL 4, tgL 5])
 (consL (asgA T 6 (locE 0) (locE 4))
 (consL (augL .add 4 (binE .fdiv (binE .add (intE 256) (attrE T 7 (locE 5))) (propE T call (locE 5))))
 (consL (asgA T 7 (locE 5) (binE .mod (binE .add (intE 256) (attrE T 7 (locE 5))) (propE T call (locE 5))))
 (consL (exprS (callE call 1 (consS (attrE T 4 (locE 0)) (consS (tupE (consS (locE 4) (consS (locE 5) nilS))) nilS))))
 nilL)))))
 nilL))
 (consL (retS (locE 1))
 nilL)))))
def ev_Stream___eq__ (call : CallF) : SF :=
 (consL (ifS (notB (truE (biE (isiV T) (consS (locE 1) (consS (gloE (.glob 253)) nilS)))))
 (consL (retS (boolE false))
 nilL)
 nilL)
 (consL (retS (cmpE T call .eq (attrE T 0 (locE 0)) (attrE T 0 (locE 1))))
 nilL))
def ev_Stream___lt__ (call : CallF) : SF :=
 (consL (ifS (notB (truE (biE (isiV T) (consS (locE 1) (consS (gloE (.glob 253)) nilS)))))
 (consL noS
 nilL)
 nilL)
 (consL (retS (cmpE T call .lt (attrE T 0 (locE 0)) (attrE T 0 (locE 1))))
 nilL))
def ev_PriorityTree___init__ (call : CallF) : SF :=
 (consL (asgA T 8 (locE 0) (newE call 253 23 (consS (intE 0) (consS (intE 1) nilS))))
 (consL (asgA T 5 (attrE T 8 (locE 0)) (boolE false))
 (consL (asgA T 9 (locE 0) (dict1 0 (attrE T 8 (locE 0))))
 (consL (ifS (notB (truE (biE (isiV T) (consS (locE 1) (consS (gloE (.ty "int")) nilS)))))
 (consL noS
 nilL)
 nilL)
 (consL (ifS (truE (cmpE T call .le (locE 1) (intE 0)))
 (consL noS
 nilL)
 nilL)
 (consL (asgA T 10 (locE 0) (locE 1))
 nilL))))))
def ev_PriorityTree__get_or_insert_parent (call : CallF) : SF :=
 (consL (tryN (consL (retS (subE T (attrE T 9 (locE 0)) (locE 1)))
 nilL))
 nilL)
def ev_PriorityTree__exclusive_insert (call : CallF) : SF :=
 (consL (exprS (methE T call 4 (locE 1) (consS (locE 2) nilS)))
 nilL)
def ev_PriorityTree_insert_stream (call : CallF) : SF :=
 (consL (ifS (truE (cmpE T call .in_ (locE 1) (attrE T 9 (locE 0))))
 (consL noS
 nilL)
 nilL)
 (consL (ifS (truE (cmpE T call .gt (binE .add (biE (lenV T) (consS (attrE T 9 (locE 0)) nilS)) (intE 1)) (attrE T 10 (locE 0))))
 (consL noS
 nilL)
 nilL)
 (consL (asgL 5 (newE call 253 3 (consS (locE 1) (consS (locE 3) nilS))))
 (consL (ifS (notB (truE (locE 2)))
 (consL (asgL 2 (intE 0))
 nilL)
 (consL (ifS (truE (cmpE T call .eq (locE 2) (locE 1)))
 (consL noS
 nilL)
 nilL)
 nilL))
 (consL (ifS (truE (locE 4))
 (consL (asgL 6 (methE T call 7 (locE 0) (consS (locE 2) nilS)))
 (consL (exprS (methE T call 8 (locE 0) (consS (locE 6) (consS (locE 5) nilS))))
 (consL (asgI (attrE T 9 (locE 0)) (locE 1) (locE 5))
 (consL retN
 nilL))))
 nilL)
 (consL (asgL 7 (methE T call 7 (locE 0) (consS (locE 2) nilS)))
 (consL (exprS (methE T call 3 (locE 7) (consS (locE 5) nilS)))
 (consL (asgI (attrE T 9 (locE 0)) (locE 1) (locE 5))
 nilL))))))))
def ev_PriorityTree_block (call : CallF) : SF :=
 (consL (ifS (truE (cmpE T call .eq (locE 1) (intE 0)))
 (consL noS
 nilL)
 nilL)
 (consL (tryN (consL (asgA T 5 (subE T (attrE T 9 (locE 0)) (locE 1)) (boolE false))
 nilL))
 nilL))
def ev_PriorityTree___next__ (call : CallF) : SF :=
 (consL (tryN (consL (retS (methE T call 6 (attrE T 8 (locE 0)) nilS))
 nilL))
 nilL)
def ev_PriorityTree_next (call : CallF) : SF :=
 (consL (retS (methE T call 14 (locE 0) nilS))
 nilL)
def ev__law_det (call : CallF) : SF :=
 (consL (ifS (truE (cmpE T call .eq (locE 0) (listE nilS)))
 (consL (retS (intE 1))
 nilL)
 nilL)
 (consL (asgTE [tgL 1, tgL 2] (tupE (consS (intE 0) (consS (intE 1) nilS))))
 (consL (forS T false (biE rangeV (consS (biE (lenV T) (consS (locE 0) nilS)) nilS)) (tgC 0)
 (consL (augL .add 1 (binE .mul (binE .mul (locE 2) (subE T (subE T (locE 0) (intE 0)) (celE 0))) (callE call 18 (consS (compE T false (sliceE T (locE 0) (some (intE 1)) none) 1 0 [0] (tgL 0) none (binE .add (sliceE T (locE 0) none (some (celE 0))) (sliceE T (locE 0) (some (binE .add (celE 0) (intE 1))) none))) nilS))))
 (consL (asgL 2 (negE (locE 2)))
 nilL)))
 (consL (retS (locE 1))
 nilL))))
def ev__law_common (call : CallF) : SF :=
 (consL (whileL (truE (locE 1))
 (consL (asgSw [0, 1] (tupE (consS (locE 1) (consS (binE .mod (locE 0) (locE 1)) nilS))))
 nilL) fuel)
 (consL (retS (locE 0))
 nilL))
def ev__law_step (call : CallF) : SF :=
 (consL (asgL 3 (methE T call 15 (locE 0) nilS))
 (consL (ifS (orB (truE (biE (isiV T) (consS (locE 3) (consS (gloE (.ty "bool")) nilS)))) (orB (notB (truE (biE (isiV T) (consS (locE 3) (consS (gloE (.ty "int")) nilS))))) (orB (truE (cmpE T call .notIn (locE 3) (locE 1))) ffB)))
 (consL (retS (negE (intE 1)))
 nilL)
 nilL)
 (consL (exprS (lmE appV (locE 2) (consS (locE 3) nilS)))
 (consL (retS (subE T (locE 1) (locE 3)))
 nilL))))
def ev__law_walk (call : CallF) : SF :=
 (consL (forS T false (biE rangeV (consS (intE 9) nilS)) (tgL 4)
 (consL (asgL 5 (callE call 20 (consS (subE T (locE 0) (locE 3)) (consS (subE T (locE 1) (locE 3)) (consS (subE T (locE 2) (locE 3)) nilS)))))
 (consL (ifS (orB (truE (cmpE T call .lt (locE 5) (intE 0))) (orB (truE (cmpE T call .gt (locE 5) (intE 1))) ffB))
 (consL (retS (locE 5))
 nilL)
 nilL)
 (consL (asgL 3 (binE .mod (binE .add (binE .add (locE 3) (intE 1)) (locE 5)) (intE 3)))
 nilL))))
 (consL (retS (negE (intE 1)))
 nilL))
def ev_law (sa : Addr) (ns : List Int) (call : CallF) : SF :=
 (consL (asgC 11 (biE (listV T) (consS (scrE sa ns 0 9) nilS)))
 (consL (augC .add 11 (biE (listV T) (consS (sliceE T (gloE (.glob 352)) (some (biE (lenV T) (consS (celE 11) nilS))) none) nilS)))
 (consL (asgTE [tgC 10, tgL 1] (tupE (consS (gloE (.glob 361)) (consS (gloE (.glob 362)) nilS))))
 (consL (asgC 8 (compE T false (biE rangeV (consS (intE 3) nilS)) 1 0 [10, 11] (tgL 0) none (subE T (celE 0) (binE .mod (subE T (celE 1) (locE 0)) (intE 8)))))
 (consL (asgTE [tgL 2, tgL 3, tgC 7, tgC 6] (tupE (consS (listE nilS) (consS (listE nilS) (consS (listE nilS) (consS (listE nilS) nilS))))))
 (consL (forS T false (biE rangeV (consS (intE 3) nilS)) (tgC 9)
 (consL (asgSw [4, 5, 6] (tupE (consS (newE call 347 11 nilS) (consS dict0 (consS (listE nilS) nilS)))))
 (consL (asgL 7 (subE T (locE 1) (binE .mod (binE .add (subE T (celE 11) (intE 5)) (binE .mul (celE 9) (subE T (celE 11) (intE 6)))) (intE 8))))
 (consL (forS T false (biE rangeV (consS (intE 4) nilS)) (tgL 8)
 (consL (ifS (truE (subE T (subE T (celE 8) (celE 9)) (locE 8)))
 (consL (asgL 9 (binE .mod (binE .add (binE .mul (locE 8) (binE .add (intE 1) (binE .mod (binE .add (subE T (celE 11) (intE 3)) (celE 9)) (intE 4)))) (subE T (celE 11) (intE 4))) (intE 5)))
 (consL (asgC 5 (iteE (truE (cmpE T call .lt (locE 9) (intE 2))) (binE .sub (locE 9) (intE 2)) (binE .sub (locE 9) (intE 1))))
 (consL (asgC 4 (binE .mul (locE 7) (subE T (subE T (celE 8) (celE 9)) (locE 8))))
 (consL (exprS (methE T call 9 (locE 4) (consS (celE 5) (consS noneE (consS (celE 4) nilS)))))
 (consL (asgI (locE 5) (celE 5) (locE 8))
 (consL (augL .add 6 (compE T false (biE rangeV (consS (subE T (subE T (celE 8) (celE 9)) (locE 8)) nilS)) 1 0 [4, 5] (tgL 0) none (tupE (consS (binE .fdiv (binE .mul (intE 256) (locE 0)) (celE 0)) (consS (celE 1) nilS)))))
 nilL))))))
 nilL)
 nilL))
 (consL (exprS (lmE appV (locE 2) (consS (locE 4) nilS)))
 (consL (exprS (lmE appV (locE 3) (consS (locE 5) nilS)))
 (consL (exprS (lmE appV (celE 7) (consS (compE T true (biE sortV2 (consS (locE 6) nilS)) 2 0 [] (tgT [tgL 0, tgL 1]) none (locE 1)) nilS)))
 (consL (exprS (lmE appV (celE 6) (consS (listE nilS) nilS)))
 nilL))))))))
 (consL (forS T false (biE rangeV (consS (intE 3) nilS)) (tgC 9)
 (consL (asgL 8 (intE 0))
 (consL (whileL (truE (cmpE T call .lt (locE 8) (intE 2)))
 (consL (asgL 8 (callE call 20 (consS (subE T (locE 2) (celE 9)) (consS (subE T (locE 3) (celE 9)) (consS (subE T (celE 6) (celE 9)) nilS)))))
 (consL (ifS (orB (truE (cmpE T call .lt (locE 8) (intE 0))) (orB (truE (cmpE T call .gt (biE (lenV T) (consS (subE T (celE 6) (celE 9)) nilS)) (intE 3))) ffB))
 (consL (retS (boolE false))
 nilL)
 nilL)
 nilL)) fuel)
 nilL)))
 (consL (forS T false (biE rangeV (consS (binE .mod (subE T (celE 11) (intE 7)) (intE 3)) nilS)) (tgL 10)
 (consL (ifS (truE (cmpE T call .lt (callE call 21 (consS (locE 2) (consS (locE 3) (consS (celE 6) (consS (binE .mod (binE .add (binE .fdiv (subE T (celE 11) (intE 7)) (intE 3)) (locE 10)) (intE 3)) nilS))))) (intE 0)))
 (consL (retS (boolE false))
 nilL)
 nilL)
 nilL))
 (consL (asgC 3 (binE .mod (subE T (celE 11) (intE 8)) (intE 3)))
 (consL (asgC 2 (compE T false (biE rangeV (consS (intE 3) nilS)) 1 0 [8] (tgL 0) none (biE (sumV T) (consS (subE T (celE 0) (locE 0)) nilS))))
 (consL (asgC 1 (compE T false (biE rangeV (consS (intE 3) nilS)) 0 1 [2, 8] (tgC 0) none (compE T false (biE rangeV (consS (intE 3) nilS)) 1 0 [0, 1, 2] (tgL 0) none (iteE (truE (cmpE T call .eq (celE 0) (locE 0))) (subE T (celE 1) (celE 0)) (negE (subE T (subE T (celE 2) (celE 0)) (binE .sub (binE .mod (binE .sub (locE 0) (celE 0)) (intE 3)) (intE 1))))))))
 (consL (asgSw [11, 12] (tupE (consS (callE call 18 (consS (celE 1) nilS)) (consS (listE nilS) nilS))))
 (consL (asgL 13 (locE 11))
 (consL (forS T false (biE rangeV (consS (intE 3) nilS)) (tgC 9)
 (consL (asgK T 14 false (biE rangeV (consS (intE 3) nilS)) 1 0 [1, 3, 9] (tgL 0) (some (truE (cmpE T call .ne (locE 0) (celE 2)))) (binE .add (sliceE T (subE T (celE 0) (locE 0)) none (some (celE 1))) (sliceE T (subE T (celE 0) (locE 0)) (some (binE .add (celE 1) (intE 1))) none)))
 (consL (exprS (lmE appV (locE 12) (consS (binE .mul (callE call 18 (consS (locE 14) nilS)) (iteE (truE (cmpE T call .eq (binE .mod (binE .add (celE 9) (celE 3)) (intE 2)) (intE 0))) (intE 1) (negE (intE 1)))) nilS)))
 (consL (asgL 13 (callE call 19 (consS (locE 13) (consS (subE T (locE 12) (celE 9)) nilS))))
 nilL))))
 (consL (asgC 0 (compE T false (celE 6) 1 0 [] (tgL 0) none (biE (lenV T) (consS (locE 0) nilS))))
 (consL (asgL 15 (listE nilS))
 (consL (forS T false (biE rangeV (consS (intE 1) (consS (binE .add (binE .fdiv (locE 11) (locE 13)) (intE 1)) nilS))) (tgL 10)
 (consL (exprS (lmE appV (locE 15) (consS (callE call 21 (consS (locE 2) (consS (locE 3) (consS (celE 6) (consS (celE 3) nilS))))) nilS)))
 (consL (ifS (truE (cmpE T call .lt (subE T (locE 15) (negE (intE 1))) (intE 0)))
 (consL (retS (boolE false))
 nilL)
 nilL)
 (consL (asgK T 16 false (biE rangeV (consS (intE 3) nilS)) 1 0 [6, 0, 2] (tgL 0) (some (truE (binE .mod (binE .sub (biE (lenV T) (consS (subE T (celE 0) (locE 0)) nilS)) (subE T (celE 1) (locE 0))) (subE T (celE 2) (locE 0))))) (locE 0))
 (consL (ifS (truE (cmpE T call .ne (cmpE T call .eq (locE 16) (listE nilS)) (cmpE T call .eq (locE 10) (binE .fdiv (locE 11) (locE 13)))))
 (consL (retS (boolE false))
 nilL)
 nilL)
 nilL)))))
 (consL (asgL 17 (listE (consS (intE 0) (consS (intE 0) nilS))))
 (consL (forS T false (biE rangeV (consS (intE 3) nilS)) (tgC 9)
 (consL (asgL 18 (sliceE T (subE T (celE 6) (celE 9)) (some (subE T (celE 0) (celE 9))) none))
 (consL (forS T false (subE T (locE 3) (celE 9)) (tgC 5)
 (consL (asgL 8 (subE T (subE T (locE 3) (celE 9)) (celE 5)))
 (consL (asgL 19 (binE .mul (binE .fdiv (subE T (locE 12) (celE 9)) (locE 13)) (subE T (subE T (celE 8) (celE 9)) (locE 8))))
 (consL (ifS (truE (cmpE T call .ne (lmE countV (locE 18) (consS (celE 5) nilS)) (locE 19)))
 (consL (retS (boolE false))
 nilL)
 nilL)
 (consL (ifS (truE (cmpE T call .gt (locE 8) (intE 1)))
 (consL (augI T .add (locE 17) (binE .sub (locE 8) (intE 2)) (locE 19))
 nilL)
 nilL)
 nilL)))))
 nilL)))
 (consL (ifS (truE (cmpE T call .ne (listE (consS (lmE countV (locE 15) (consS (intE 2) nilS)) (consS (lmE countV (locE 15) (consS (intE 3) nilS)) nilS))) (locE 17)))
 (consL (retS (boolE false))
 nilL)
 nilL)
 (consL (retS (cmpE T call .eq (compE T false (biE rangeV (consS (intE 3) nilS)) 0 1 [6, 7, 2] (tgC 0) none (compE T false (biE rangeV (consS (biE (lenV T) (consS (subE T (celE 1) (celE 0)) nilS)) nilS)) 1 0 [2, 0, 3] (tgL 0) none (subE T (subE T (celE 0) (celE 1)) (binE .mod (locE 0) (subE T (celE 2) (celE 1)))))) (celE 6)))
 nilL)))))))))))))))))))))
section
variable {C : Ctx} {f : Fm} {n : Nat} {call : CallF} {outer : List Env} {base : Heap} {L : Addr} {g : Heap} {A : Around} {P : Params}
abbrev fm__ahead (outer : List Env) (base : Heap) (L : Addr) (g : Heap) (A : Around) (P : Params) : Fm := fnFm0 outer base (quOf (KK P) 28) (scOf (KK P) 28) L 28 (cdOf (KK P) 28) g A ["one", "other"]
theorem sl__ahead (ok : FmOk C (fm__ahead outer base L g A P)) (tk : TabOk C tab) (hc : CallOk C tab call n) (G : Gl C) : SL C (fm__ahead outer base L g A P) (n + 1) (bodyOf (KK P) 28) (ev__ahead call) :=
 (sl_cons (ss_if (sb_cmp (o := .ne) ok tk hc (se_sub ok tk (se_l ok 0 rfl) se_i (fun _ _ => rfl)) (se_sub ok tk (se_l ok 1 rfl) se_i (fun _ _ => rfl)) rfl)
 (sl_cons (ss_ret (se_cmp (o := .lt) ok tk hc (se_sub ok tk (se_l ok 0 rfl) se_i (fun _ _ => rfl)) (se_sub ok tk (se_l ok 1 rfl) se_i (fun _ _ => rfl)) rfl))
 sl_nil)
 sl_nil)
 (sl_cons (ss_ret (se_cmp (o := .lt) ok tk hc (se_sub ok tk (se_l ok 0 rfl) se_i (fun _ _ => rfl)) (se_sub ok tk (se_l ok 1 rfl) se_i (fun _ _ => rfl)) rfl))
 sl_nil))
abbrev fm_heappush (outer : List Env) (base : Heap) (L : Addr) (g : Heap) (A : Around) (P : Params) : Fm := fnFm0 outer base (quOf (KK P) 35) (scOf (KK P) 35) L 35 (cdOf (KK P) 35) g A ["queue", "item", "place"]
theorem sl_heappush (ok : FmOk C (fm_heappush outer base L g A P)) (tk : TabOk C tab) (hc : CallOk C tab call n) (G : Gl C) : SL C (fm_heappush outer base L g A P) (n + 1) (bodyOf (KK P) 35) (ev_heappush call) :=
 (sl_cons (ss_asgL (i := 2) ok rfl (se_bi ok rfl rfl G.g_len (bc_len ok tk) (ss_cons (se_l ok 0 rfl) ss_nil rfl) rfl rfl) rfl)
 (sl_cons (ss_while (sb_and (sb_cmp (o := .gt) ok tk hc (se_l ok 2 rfl) se_i rfl) (sb_and (sb_plain ok (se_callFn ok hc (g := 0) rfl rfl G.g__ahead (G.keep 28 rfl) rfl (ss_cons (se_l ok 1 rfl) (ss_cons (se_sub ok tk (se_l ok 0 rfl) (se_bin (o := .sub) (se_l ok 2 rfl) se_i) (fun _ _ => rfl)) ss_nil rfl) rfl) rfl rfl) (fun _ => rfl)) sb_and_nil))
 (sl_cons (ss_augL (i := 2) (o := .sub) ok rfl se_i)
 sl_nil))
 (sl_cons (ss_expr (se_lm PySem.F.slot_list_insert PySem.F.type_list_insert bc_insert (se_l ok 0 rfl) (ss_cons (se_l ok 2 rfl) (ss_cons (se_l ok 1 rfl) ss_nil rfl) rfl) rfl rfl rfl) rfl rfl)
 sl_nil)))
abbrev fm_heappop (outer : List Env) (base : Heap) (L : Addr) (g : Heap) (A : Around) (P : Params) : Fm := fnFm0 outer base (quOf (KK P) 42) (scOf (KK P) 42) L 42 (cdOf (KK P) 42) g A ["queue"]
theorem sl_heappop (ok : FmOk C (fm_heappop outer base L g A P)) (tk : TabOk C tab) (hc : CallOk C tab call n) (G : Gl C) : SL C (fm_heappop outer base L g A P) (n + 1) (bodyOf (KK P) 42) (ev_heappop call) :=
 (sl_cons (ss_ret (se_lm PySem.F.slot_list_pop PySem.F.type_list_pop bc_pop (se_l ok 0 rfl) (ss_cons se_i ss_nil rfl) rfl rfl rfl))
 sl_nil)
abbrev fm_Stream___init__ (outer : List Env) (base : Heap) (L : Addr) (g : Heap) (A : Around) (P : Params) : Fm := fnFm0 outer base (quOf (KK P) 155) (scOf (KK P) 155) L 155 (cdOf (KK P) 155) g A ["self", "stream_id", "weight"]
theorem sl_Stream___init__ (ok : FmOk C (fm_Stream___init__ outer base L g A P)) (tk : TabOk C tab) (hc : CallOk C tab call n) (G : Gl C) : SL C (fm_Stream___init__ outer base L g A P) (n + 1) (bodyOf (KK P) 155) (ev_Stream___init__ call) :=
 (sl_cons (ss_asgA (i := 0) ok tk (se_l ok 1 rfl) (se_l ok 0 rfl) rfl)
 (sl_cons (ss_asgP ok tk hc (se_l ok 2 rfl) (se_l ok 0 rfl) rfl)
 (sl_cons (ss_asgA (i := 2) ok tk (se_list ss_nil) (se_l ok 0 rfl) rfl)
 (sl_cons (ss_asgA (i := 3) ok tk se_n (se_l ok 0 rfl) rfl)
 (sl_cons (ss_asgA (i := 4) ok tk (se_list ss_nil) (se_l ok 0 rfl) rfl)
 (sl_cons (ss_asgA (i := 5) ok tk se_b (se_l ok 0 rfl) rfl)
 (sl_cons (ss_asgA (i := 6) ok tk se_i (se_l ok 0 rfl) rfl)
 (sl_cons (ss_asgA (i := 7) ok tk se_i (se_l ok 0 rfl) rfl)
 sl_nil))))))))
abbrev fm_Stream_weight (outer : List Env) (base : Heap) (L : Addr) (g : Heap) (A : Around) (P : Params) : Fm := fnFm0 outer base (quOf (KK P) 162) (scOf (KK P) 162) L 162 (cdOf (KK P) 162) g A ["self"]
theorem sl_Stream_weight (ok : FmOk C (fm_Stream_weight outer base L g A P)) (tk : TabOk C tab) (hc : CallOk C tab call n) (G : Gl C) : SL C (fm_Stream_weight outer base L g A P) (n + 1) (bodyOf (KK P) 162) (ev_Stream_weight call) :=
 (sl_cons (ss_ret (se_attr ok tk 1 (se_l ok 0 rfl) rfl))
 sl_nil)
abbrev fm_Stream_weight_set (outer : List Env) (base : Heap) (L : Addr) (g : Heap) (A : Around) (P : Params) : Fm := fnFm0 outer base (quOf (KK P) 171) (scOf (KK P) 171) L 171 (cdOf (KK P) 171) g A ["self", "value"]
theorem sl_Stream_weight_set (ok : FmOk C (fm_Stream_weight_set outer base L g A P)) (tk : TabOk C tab) (hc : CallOk C tab call n) (G : Gl C) : SL C (fm_Stream_weight_set outer base L g A P) (n + 1) (bodyOf (KK P) 171) (ev_Stream_weight_set call) :=
 (sl_cons (ss_if (sb_not (sb_plain ok (se_bi ok rfl rfl G.g_isinstance (bc_isi ok tk) (ss_cons (se_l ok 1 rfl) (ss_cons (se_g ok rfl rfl G.g_int rfl) ss_nil rfl) rfl) rfl rfl) (fun _ => rfl)))
 (sl_cons ss_no
 sl_nil)
 (sl_cons (ss_if (sb_not (sb_chain (o1 := .le) (o2 := .le) ok tk hc se_i (se_l ok 1 rfl) se_i rfl))
 (sl_cons ss_no
 sl_nil)
 sl_nil)
 sl_nil))
 (sl_cons (ss_asgA (i := 1) ok tk (se_l ok 1 rfl) (se_l ok 0 rfl) rfl)
 sl_nil))
abbrev fm_Stream_add_child (outer : List Env) (base : Heap) (L : Addr) (g : Heap) (A : Around) (P : Params) : Fm := fnFm0 outer base (quOf (KK P) 179) (scOf (KK P) 179) L 179 (cdOf (KK P) 179) g A ["self", "child"]
theorem sl_Stream_add_child (ok : FmOk C (fm_Stream_add_child outer base L g A P)) (tk : TabOk C tab) (hc : CallOk C tab call n) (G : Gl C) : SL C (fm_Stream_add_child outer base L g A P) (n + 1) (bodyOf (KK P) 179) (ev_Stream_add_child call) :=
 (sl_cons (ss_asgA (i := 3) ok tk (se_l ok 0 rfl) (se_l ok 1 rfl) rfl)
 (sl_cons (ss_expr (se_lm PySem.F.slot_list_append PySem.F.type_list_append bc_append (se_attr ok tk 2 (se_l ok 0 rfl) rfl) (ss_cons (se_l ok 1 rfl) ss_nil rfl) rfl rfl rfl) rfl rfl)
 (sl_cons (ss_expr (se_callFn ok hc (g := 1) rfl rfl G.g_heappush (G.keep 35 rfl) rfl (ss_cons (se_attr ok tk 4 (se_l ok 0 rfl) rfl) (ss_cons (se_tup (ss_cons (se_attr ok tk 6 (se_l ok 0 rfl) rfl) (ss_cons (se_l ok 1 rfl) ss_nil rfl) rfl)) ss_nil rfl) rfl) rfl rfl) rfl rfl)
 sl_nil)))
abbrev fm_Stream_add_child_exclusive (outer : List Env) (base : Heap) (L : Addr) (g : Heap) (A : Around) (P : Params) : Fm := fnFm0 outer base (quOf (KK P) 186) (scOf (KK P) 186) L 186 (cdOf (KK P) 186) g A ["self", "child", "old_children", "old_child"]
theorem sl_Stream_add_child_exclusive (ok : FmOk C (fm_Stream_add_child_exclusive outer base L g A P)) (tk : TabOk C tab) (hc : CallOk C tab call n) (G : Gl C) : SL C (fm_Stream_add_child_exclusive outer base L g A P) (n + 1) (bodyOf (KK P) 186) (ev_Stream_add_child_exclusive call) :=
 (sl_cons (ss_asgL (i := 2) ok rfl (se_attr ok tk 2 (se_l ok 0 rfl) rfl) rfl)
 (sl_cons (ss_asgA (i := 2) ok tk (se_list ss_nil) (se_l ok 0 rfl) rfl)
 (sl_cons (ss_asgA (i := 4) ok tk (se_list ss_nil) (se_l ok 0 rfl) rfl)
 (sl_cons (ss_asgA (i := 6) ok tk se_i (se_l ok 0 rfl) rfl)
 (sl_cons (ss_expr (se_meth ok tk hc (m := 3) (by decide) (se_l ok 0 rfl) (ss_cons (se_l ok 1 rfl) ss_nil rfl) rfl rfl rfl) rfl rfl)
 (sl_cons (ss_for ok tk (se_l ok 2 rfl) (tg_L ok rfl)
 (sl_cons (ss_expr (se_meth ok tk hc (m := 3) (by decide) (se_l ok 1 rfl) (ss_cons (se_l ok 3 rfl) ss_nil rfl) rfl rfl rfl) rfl rfl)
 sl_nil) (.inl ⟨rfl, fun _ _ => rfl⟩) (fun _ => rfl))
 sl_nil))))))
abbrev fm_Stream_schedule (outer : List Env) (base : Heap) (L : Addr) (g : Heap) (A : Around) (P : Params) : Fm := fnFm0 outer base (quOf (KK P) 201) (scOf (KK P) 201) L 201 (cdOf (KK P) 201) g A ["self", "next_stream", "popped_streams", "val", "level", "child"]
theorem sl_Stream_schedule (ok : FmOk C (fm_Stream_schedule outer base L g A P)) (tk : TabOk C tab) (hc : CallOk C tab call n) (G : Gl C) : SL C (fm_Stream_schedule outer base L g A P) (n + 1) (bodyOf (KK P) 201) (ev_Stream_schedule call) :=
 (sl_cons (ss_assert (sb_not (sb_plain ok (se_attr ok tk 5 (se_l ok 0 rfl) rfl) (fun _ => rfl))))
 (sl_cons (ss_asgL (i := 1) ok rfl se_n rfl)
 (sl_cons (ss_asgL (i := 2) ok rfl (se_list ss_nil) rfl)
 (sl_cons (ss_finN (sl_cons (ss_while (sb_cmp (o := .is_) ok tk hc (se_l ok 1 rfl) se_n rfl)
 (sl_cons (ss_asgL (i := 3) ok rfl (se_callFn ok hc (g := 2) rfl rfl G.g_heappop (G.keep 42 rfl) rfl (ss_cons (se_attr ok tk 4 (se_l ok 0 rfl) rfl) ss_nil rfl) rfl rfl) rfl)
 (sl_cons (ss_expr (se_lm PySem.F.slot_list_append PySem.F.type_list_append bc_append (se_l ok 2 rfl) (ss_cons (se_l ok 3 rfl) ss_nil rfl) rfl rfl rfl) rfl rfl)
 (sl_cons (ss_t (.cons (tg_L ok rfl) rfl (.cons (tg_L ok rfl) rfl .nil)) (se_l ok 3 rfl) rfl rfl)
 (sl_cons (ss_if (sb_plain ok (se_attr ok tk 5 (se_l ok 5 rfl) rfl) (fun _ => rfl))
 (sl_cons (ss_asgL (i := 1) ok rfl (se_attr ok tk 0 (se_l ok 5 rfl) rfl) rfl)
 sl_nil)
 (sl_cons (ss_tryN (sl_cons (ss_asgL (i := 1) ok rfl (se_meth0 ok tk hc (m := 6) (by decide) (se_l ok 5 rfl) rfl) rfl)
 sl_nil))
 sl_nil))
 sl_nil)))))
 sl_nil)
 (sl_cons (ss_for ok tk (se_l ok 2 rfl) (tg_T (.cons (tg_L ok rfl) rfl (.cons (tg_L ok rfl) rfl .nil)))
 (sl_cons (ss_asgA (i := 6) ok tk (se_l ok 4 rfl) (se_l ok 0 rfl) rfl)
 (sl_cons (ss_augL (i := 4) (o := .add) ok rfl (se_bin (o := .fdiv) (se_bin (o := .add) se_i (se_attr ok tk 7 (se_l ok 5 rfl) rfl)) (se_prop ok tk hc (se_l ok 5 rfl) rfl)))
 (sl_cons (ss_asgA (i := 7) ok tk (se_bin (o := .mod) (se_bin (o := .add) se_i (se_attr ok tk 7 (se_l ok 5 rfl) rfl)) (se_prop ok tk hc (se_l ok 5 rfl) rfl)) (se_l ok 5 rfl) rfl)
 (sl_cons (ss_expr (se_callFn ok hc (g := 1) rfl rfl G.g_heappush (G.keep 35 rfl) rfl (ss_cons (se_attr ok tk 4 (se_l ok 0 rfl) rfl) (ss_cons (se_tup (ss_cons (se_l ok 4 rfl) (ss_cons (se_l ok 5 rfl) ss_nil rfl) rfl)) ss_nil rfl) rfl) rfl rfl) rfl rfl)
 sl_nil)))) (.inr ⟨rfl, ⟨_, _, _, rfl⟩, tgT_ref⟩) (fun _ => rfl))
 sl_nil))
 (sl_cons (ss_ret (se_l ok 1 rfl))
 sl_nil)))))
abbrev fm_Stream___eq__ (outer : List Env) (base : Heap) (L : Addr) (g : Heap) (A : Around) (P : Params) : Fm := fnFm0 outer base (quOf (KK P) 215) (scOf (KK P) 215) L 215 (cdOf (KK P) 215) g A ["self", "other"]
theorem sl_Stream___eq__ (ok : FmOk C (fm_Stream___eq__ outer base L g A P)) (tk : TabOk C tab) (hc : CallOk C tab call n) (G : Gl C) : SL C (fm_Stream___eq__ outer base L g A P) (n + 1) (bodyOf (KK P) 215) (ev_Stream___eq__ call) :=
 (sl_cons (ss_if (sb_not (sb_plain ok (se_bi ok rfl rfl G.g_isinstance (bc_isi ok tk) (ss_cons (se_l ok 1 rfl) (ss_cons (se_g ok rfl rfl G.g_Stream rfl) ss_nil rfl) rfl) rfl rfl) (fun _ => rfl)))
 (sl_cons (ss_ret se_b)
 sl_nil)
 sl_nil)
 (sl_cons (ss_ret (se_cmp (o := .eq) ok tk hc (se_attr ok tk 0 (se_l ok 0 rfl) rfl) (se_attr ok tk 0 (se_l ok 1 rfl) rfl) rfl))
 sl_nil))
abbrev fm_Stream___lt__ (outer : List Env) (base : Heap) (L : Addr) (g : Heap) (A : Around) (P : Params) : Fm := fnFm0 outer base (quOf (KK P) 229) (scOf (KK P) 229) L 229 (cdOf (KK P) 229) g A ["self", "other"]
theorem sl_Stream___lt__ (ok : FmOk C (fm_Stream___lt__ outer base L g A P)) (tk : TabOk C tab) (hc : CallOk C tab call n) (G : Gl C) : SL C (fm_Stream___lt__ outer base L g A P) (n + 1) (bodyOf (KK P) 229) (ev_Stream___lt__ call) :=
 (sl_cons (ss_if (sb_not (sb_plain ok (se_bi ok rfl rfl G.g_isinstance (bc_isi ok tk) (ss_cons (se_l ok 1 rfl) (ss_cons (se_g ok rfl rfl G.g_Stream rfl) ss_nil rfl) rfl) rfl rfl) (fun _ => rfl)))
 (sl_cons ss_no
 sl_nil)
 sl_nil)
 (sl_cons (ss_ret (se_cmp (o := .lt) ok tk hc (se_attr ok tk 0 (se_l ok 0 rfl) rfl) (se_attr ok tk 0 (se_l ok 1 rfl) rfl) rfl))
 sl_nil))
abbrev fm_PriorityTree___init__ (outer : List Env) (base : Heap) (L : Addr) (g : Heap) (A : Around) (P : Params) : Fm := fnFm0 outer base (quOf (KK P) 272) (scOf (KK P) 272) L 272 (cdOf (KK P) 272) g A ["self", "maximum_streams"]
theorem sl_PriorityTree___init__ (ok : FmOk C (fm_PriorityTree___init__ outer base L g A P)) (tk : TabOk C tab) (hc : CallOk C tab call n) (G : Gl C) : SL C (fm_PriorityTree___init__ outer base L g A P) (n + 1) (bodyOf (KK P) 272) (ev_PriorityTree___init__ call) :=
 (sl_cons (ss_asgA (i := 8) ok tk (se_newKw2 ok tk hc (g := 3) (g' := 23) rfl rfl G.g_Stream (G.keep 253 rfl) rfl rfl rfl rfl se_i se_i) (se_l ok 0 rfl) rfl)
 (sl_cons (ss_asgA (i := 5) ok tk se_b (se_attr ok tk 8 (se_l ok 0 rfl) rfl) rfl)
 (sl_cons (ss_asgA (i := 9) ok tk (se_dict1 ok (se_attr ok tk 8 (se_l ok 0 rfl) rfl)) (se_l ok 0 rfl) rfl)
 (sl_cons (ss_if (sb_not (sb_plain ok (se_bi ok rfl rfl G.g_isinstance (bc_isi ok tk) (ss_cons (se_l ok 1 rfl) (ss_cons (se_g ok rfl rfl G.g_int rfl) ss_nil rfl) rfl) rfl rfl) (fun _ => rfl)))
 (sl_cons ss_no
 sl_nil)
 sl_nil)
 (sl_cons (ss_if (sb_cmp (o := .le) ok tk hc (se_l ok 1 rfl) se_i rfl)
 (sl_cons ss_no
 sl_nil)
 sl_nil)
 (sl_cons (ss_asgA (i := 10) ok tk (se_l ok 1 rfl) (se_l ok 0 rfl) rfl)
 sl_nil))))))
abbrev fm_PriorityTree__get_or_insert_parent (outer : List Env) (base : Heap) (L : Addr) (g : Heap) (A : Around) (P : Params) : Fm := fnFm0 outer base (quOf (KK P) 279) (scOf (KK P) 279) L 279 (cdOf (KK P) 279) g A ["self", "parent_stream_id"]
theorem sl_PriorityTree__get_or_insert_parent (ok : FmOk C (fm_PriorityTree__get_or_insert_parent outer base L g A P)) (tk : TabOk C tab) (hc : CallOk C tab call n) (G : Gl C) : SL C (fm_PriorityTree__get_or_insert_parent outer base L g A P) (n + 1) (bodyOf (KK P) 279) (ev_PriorityTree__get_or_insert_parent call) :=
 (sl_cons (ss_tryN (sl_cons (ss_ret (se_sub ok tk (se_attr ok tk 9 (se_l ok 0 rfl) rfl) (se_l ok 1 rfl) (fun _ _ => rfl)))
 sl_nil))
 sl_nil)
abbrev fm_PriorityTree__exclusive_insert (outer : List Env) (base : Heap) (L : Addr) (g : Heap) (A : Around) (P : Params) : Fm := fnFm0 outer base (quOf (KK P) 286) (scOf (KK P) 286) L 286 (cdOf (KK P) 286) g A ["self", "parent_stream", "inserted_stream"]
theorem sl_PriorityTree__exclusive_insert (ok : FmOk C (fm_PriorityTree__exclusive_insert outer base L g A P)) (tk : TabOk C tab) (hc : CallOk C tab call n) (G : Gl C) : SL C (fm_PriorityTree__exclusive_insert outer base L g A P) (n + 1) (bodyOf (KK P) 286) (ev_PriorityTree__exclusive_insert call) :=
 (sl_cons (ss_expr (se_meth ok tk hc (m := 4) (by decide) (se_l ok 1 rfl) (ss_cons (se_l ok 2 rfl) ss_nil rfl) rfl rfl rfl) rfl rfl)
 sl_nil)
abbrev fm_PriorityTree_insert_stream (outer : List Env) (base : Heap) (L : Addr) (g : Heap) (A : Around) (P : Params) : Fm := fnFm0 outer base (quOf (KK P) 294) (scOf (KK P) 294) L 294 (cdOf (KK P) 294) g A ["self", "stream_id", "depends_on", "weight", "exclusive", "stream", "parent_stream", "parent"]
theorem sl_PriorityTree_insert_stream (ok : FmOk C (fm_PriorityTree_insert_stream outer base L g A P)) (tk : TabOk C tab) (hc : CallOk C tab call n) (G : Gl C) : SL C (fm_PriorityTree_insert_stream outer base L g A P) (n + 1) (bodyOf (KK P) 294) (ev_PriorityTree_insert_stream call) :=
 (sl_cons (ss_if (sb_cmp (o := .in_) ok tk hc (se_l ok 1 rfl) (se_attr ok tk 9 (se_l ok 0 rfl) rfl) rfl)
 (sl_cons ss_no
 sl_nil)
 sl_nil)
 (sl_cons (ss_if (sb_cmp (o := .gt) ok tk hc (se_bin (o := .add) (se_bi ok rfl rfl G.g_len (bc_len ok tk) (ss_cons (se_attr ok tk 9 (se_l ok 0 rfl) rfl) ss_nil rfl) rfl rfl) se_i) (se_attr ok tk 10 (se_l ok 0 rfl) rfl) rfl)
 (sl_cons ss_no
 sl_nil)
 sl_nil)
 (sl_cons (ss_asgL (i := 5) ok rfl (se_new ok tk hc rfl rfl G.g_Stream (G.keep 253 rfl) rfl rfl (ss_cons (se_l ok 1 rfl) (ss_cons (se_l ok 3 rfl) ss_nil rfl) rfl) rfl rfl) rfl)
 (sl_cons (ss_if (sb_not (sb_plain ok (se_l ok 2 rfl) (fun _ => rfl)))
 (sl_cons (ss_asgL (i := 2) ok rfl se_i rfl)
 sl_nil)
 (sl_cons (ss_if (sb_cmp (o := .eq) ok tk hc (se_l ok 2 rfl) (se_l ok 1 rfl) rfl)
 (sl_cons ss_no
 sl_nil)
 sl_nil)
 sl_nil))
 (sl_cons (ss_if (sb_plain ok (se_l ok 4 rfl) (fun _ => rfl))
 (sl_cons (ss_asgL (i := 6) ok rfl (se_meth ok tk hc (m := 7) (by decide) (se_l ok 0 rfl) (ss_cons (se_l ok 2 rfl) ss_nil rfl) rfl rfl rfl) rfl)
 (sl_cons (ss_expr (se_meth ok tk hc (m := 8) (by decide) (se_l ok 0 rfl) (ss_cons (se_l ok 6 rfl) (ss_cons (se_l ok 5 rfl) ss_nil rfl) rfl) rfl rfl rfl) rfl rfl)
 (sl_cons (ss_asgI ok (se_l ok 5 rfl) (se_attr ok tk 9 (se_l ok 0 rfl) rfl) (se_l ok 1 rfl) rfl)
 (sl_cons ss_retN
 sl_nil))))
 sl_nil)
 (sl_cons (ss_asgL (i := 7) ok rfl (se_meth ok tk hc (m := 7) (by decide) (se_l ok 0 rfl) (ss_cons (se_l ok 2 rfl) ss_nil rfl) rfl rfl rfl) rfl)
 (sl_cons (ss_expr (se_meth ok tk hc (m := 3) (by decide) (se_l ok 7 rfl) (ss_cons (se_l ok 5 rfl) ss_nil rfl) rfl rfl rfl) rfl rfl)
 (sl_cons (ss_asgI ok (se_l ok 5 rfl) (se_attr ok tk 9 (se_l ok 0 rfl) rfl) (se_l ok 1 rfl) rfl)
 sl_nil))))))))
abbrev fm_PriorityTree_block (outer : List Env) (base : Heap) (L : Addr) (g : Heap) (A : Around) (P : Params) : Fm := fnFm0 outer base (quOf (KK P) 316) (scOf (KK P) 316) L 316 (cdOf (KK P) 316) g A ["self", "stream_id"]
theorem sl_PriorityTree_block (ok : FmOk C (fm_PriorityTree_block outer base L g A P)) (tk : TabOk C tab) (hc : CallOk C tab call n) (G : Gl C) : SL C (fm_PriorityTree_block outer base L g A P) (n + 1) (bodyOf (KK P) 316) (ev_PriorityTree_block call) :=
 (sl_cons (ss_if (sb_cmp (o := .eq) ok tk hc (se_l ok 1 rfl) se_i rfl)
 (sl_cons ss_no
 sl_nil)
 sl_nil)
 (sl_cons (ss_tryN (sl_cons (ss_asgA (i := 5) ok tk se_b (se_sub ok tk (se_attr ok tk 9 (se_l ok 0 rfl) rfl) (se_l ok 1 rfl) (fun _ _ => rfl)) rfl)
 sl_nil))
 sl_nil))
abbrev fm_PriorityTree___next__ (outer : List Env) (base : Heap) (L : Addr) (g : Heap) (A : Around) (P : Params) : Fm := fnFm0 outer base (quOf (KK P) 337) (scOf (KK P) 337) L 337 (cdOf (KK P) 337) g A ["self"]
theorem sl_PriorityTree___next__ (ok : FmOk C (fm_PriorityTree___next__ outer base L g A P)) (tk : TabOk C tab) (hc : CallOk C tab call n) (G : Gl C) : SL C (fm_PriorityTree___next__ outer base L g A P) (n + 1) (bodyOf (KK P) 337) (ev_PriorityTree___next__ call) :=
 (sl_cons (ss_tryN (sl_cons (ss_ret (se_meth0 ok tk hc (m := 6) (by decide) (se_attr ok tk 8 (se_l ok 0 rfl) rfl) rfl))
 sl_nil))
 sl_nil)
abbrev fm_PriorityTree_next (outer : List Env) (base : Heap) (L : Addr) (g : Heap) (A : Around) (P : Params) : Fm := fnFm0 outer base (quOf (KK P) 344) (scOf (KK P) 344) L 344 (cdOf (KK P) 344) g A ["self"]
theorem sl_PriorityTree_next (ok : FmOk C (fm_PriorityTree_next outer base L g A P)) (tk : TabOk C tab) (hc : CallOk C tab call n) (G : Gl C) : SL C (fm_PriorityTree_next outer base L g A P) (n + 1) (bodyOf (KK P) 344) (ev_PriorityTree_next call) :=
 (sl_cons (ss_ret (se_meth0 ok tk hc (m := 14) (by decide) (se_l ok 0 rfl) rfl))
 sl_nil)
abbrev fm__law_det (outer : List Env) (base : Heap) (L : Addr) (g : Heap) (A : Around) (P : Params) : Fm := fnFm0 outer base (quOf (KK P) 367) (scOf (KK P) 367) L 367 (cdOf (KK P) 367) g A ["rows", "total", "sign"]
theorem sl__law_det (ok : FmOk C (fm__law_det outer base L g A P)) (tk : TabOk C tab) (hc : CallOk C tab call n) (G : Gl C) : SL C (fm__law_det outer base L g A P) (n + 1) (bodyOf (KK P) 367) (ev__law_det call) :=
 (sl_cons (ss_if (sb_cmp (o := .eq) ok tk hc (se_l ok 0 rfl) (se_list ss_nil) rfl)
 (sl_cons (ss_ret se_i)
 sl_nil)
 sl_nil)
 (sl_cons (ss_t (.cons (tg_L ok rfl) rfl (.cons (tg_L ok rfl) rfl .nil)) (se_tup (ss_cons se_i (ss_cons se_i ss_nil rfl) rfl)) rfl rfl)
 (sl_cons (ss_for ok tk (se_ty ok rfl rfl G.g_range bc_range (ss_cons (se_bi ok rfl rfl G.g_len (bc_len ok tk) (ss_cons (se_l ok 0 rfl) ss_nil rfl) rfl rfl) ss_nil rfl) rfl rfl) (tg_C ok rfl)
 (sl_cons (ss_augL (i := 1) (o := .add) ok rfl (se_bin (o := .mul) (se_bin (o := .mul) (se_l ok 2 rfl) (se_sub ok tk (se_sub ok tk (se_l ok 0 rfl) se_i (fun _ _ => rfl)) (se_c ok 0 rfl) (fun _ _ => rfl))) (se_callFn ok hc (g := 18) rfl rfl G.g__law_det (G.keep 367 rfl) rfl (ss_cons (se_lc ok tk ["row"] ["k"] [0] rfl (se_slice ok tk (se_l ok 0 rfl) se_i trivial) (fun D ok1 => tc_L ok1 rfl) (fun D ok1 => trivial) (fun D ok1 => (se_bin (o := .add) (se_slice ok1 tk (se_l ok1 0 rfl) trivial (se_c ok1 0 rfl)) (se_slice ok1 tk (se_l ok1 0 rfl) (se_bin (o := .add) (se_c ok1 0 rfl) se_i) trivial))) rfl rfl (.inl ⟨rfl, fun _ _ => rfl⟩) (fun _ => rfl)) ss_nil rfl) rfl rfl)))
 (sl_cons (ss_asgL (i := 2) ok rfl (se_neg (se_l ok 2 rfl)) rfl)
 sl_nil)) (.inl ⟨rfl, fun _ _ => rfl⟩) (fun _ => rfl))
 (sl_cons (ss_ret (se_l ok 1 rfl))
 sl_nil))))
abbrev fm__law_common (outer : List Env) (base : Heap) (L : Addr) (g : Heap) (A : Around) (P : Params) : Fm := fnFm0 outer base (quOf (KK P) 374) (scOf (KK P) 374) L 374 (cdOf (KK P) 374) g A ["one", "other"]
theorem sl__law_common (ok : FmOk C (fm__law_common outer base L g A P)) (tk : TabOk C tab) (hc : CallOk C tab call n) (G : Gl C) : SL C (fm__law_common outer base L g A P) (n + 1) (bodyOf (KK P) 374) (ev__law_common call) :=
 (sl_cons (ss_while (sb_plain ok (se_l ok 1 rfl) (fun _ => rfl))
 (sl_cons (ss_sw (names := ["one", "other"]) (is := [0, 1]) ok (se_tup (ss_cons (se_l ok 1 rfl) (ss_cons (se_bin (o := .mod) (se_l ok 0 rfl) (se_l ok 1 rfl)) ss_nil rfl) rfl)) ⟨rfl, rfl, trivial⟩ rfl rfl)
 sl_nil))
 (sl_cons (ss_ret (se_l ok 0 rfl))
 sl_nil))
abbrev fm__law_step (outer : List Env) (base : Heap) (L : Addr) (g : Heap) (A : Around) (P : Params) : Fm := fnFm0 outer base (quOf (KK P) 381) (scOf (KK P) 381) L 381 (cdOf (KK P) 381) g A ["tree", "sign", "answers", "number"]
theorem sl__law_step (ok : FmOk C (fm__law_step outer base L g A P)) (tk : TabOk C tab) (hc : CallOk C tab call n) (G : Gl C) : SL C (fm__law_step outer base L g A P) (n + 1) (bodyOf (KK P) 381) (ev__law_step call) :=
 (sl_cons (ss_asgL (i := 3) ok rfl (se_meth0 ok tk hc (m := 15) (by decide) (se_l ok 0 rfl) rfl) rfl)
 (sl_cons (ss_if (sb_or (sb_plain ok (se_bi ok rfl rfl G.g_isinstance (bc_isi ok tk) (ss_cons (se_l ok 3 rfl) (ss_cons (se_g ok rfl rfl G.g_bool rfl) ss_nil rfl) rfl) rfl rfl) (fun _ => rfl)) (sb_or (sb_not (sb_plain ok (se_bi ok rfl rfl G.g_isinstance (bc_isi ok tk) (ss_cons (se_l ok 3 rfl) (ss_cons (se_g ok rfl rfl G.g_int rfl) ss_nil rfl) rfl) rfl rfl) (fun _ => rfl))) (sb_or (sb_cmp (o := .notIn) ok tk hc (se_l ok 3 rfl) (se_l ok 1 rfl) rfl) sb_or_nil)))
 (sl_cons (ss_ret (se_neg se_i))
 sl_nil)
 sl_nil)
 (sl_cons (ss_expr (se_lm PySem.F.slot_list_append PySem.F.type_list_append bc_append (se_l ok 2 rfl) (ss_cons (se_l ok 3 rfl) ss_nil rfl) rfl rfl rfl) rfl rfl)
 (sl_cons (ss_ret (se_sub ok tk (se_l ok 1 rfl) (se_l ok 3 rfl) (fun _ _ => rfl)))
 sl_nil))))
abbrev fm__law_walk (outer : List Env) (base : Heap) (L : Addr) (g : Heap) (A : Around) (P : Params) : Fm := fnFm0 outer base (quOf (KK P) 388) (scOf (KK P) 388) L 388 (cdOf (KK P) 388) g A ["trees", "signs", "told", "at", "turn", "road"]
theorem sl__law_walk (ok : FmOk C (fm__law_walk outer base L g A P)) (tk : TabOk C tab) (hc : CallOk C tab call n) (G : Gl C) : SL C (fm__law_walk outer base L g A P) (n + 1) (bodyOf (KK P) 388) (ev__law_walk call) :=
 (sl_cons (ss_for ok tk (se_ty ok rfl rfl G.g_range bc_range (ss_cons se_i ss_nil rfl) rfl rfl) (tg_L ok rfl)
 (sl_cons (ss_asgL (i := 5) ok rfl (se_callFn ok hc (g := 20) rfl rfl G.g__law_step (G.keep 381 rfl) rfl (ss_cons (se_sub ok tk (se_l ok 0 rfl) (se_l ok 3 rfl) (fun _ _ => rfl)) (ss_cons (se_sub ok tk (se_l ok 1 rfl) (se_l ok 3 rfl) (fun _ _ => rfl)) (ss_cons (se_sub ok tk (se_l ok 2 rfl) (se_l ok 3 rfl) (fun _ _ => rfl)) ss_nil rfl) rfl) rfl) rfl rfl) rfl)
 (sl_cons (ss_if (sb_or (sb_cmp (o := .lt) ok tk hc (se_l ok 5 rfl) se_i rfl) (sb_or (sb_cmp (o := .gt) ok tk hc (se_l ok 5 rfl) se_i rfl) sb_or_nil))
 (sl_cons (ss_ret (se_l ok 5 rfl))
 sl_nil)
 sl_nil)
 (sl_cons (ss_asgL (i := 3) ok rfl (se_bin (o := .mod) (se_bin (o := .add) (se_bin (o := .add) (se_l ok 3 rfl) se_i) (se_l ok 5 rfl)) se_i) rfl)
 sl_nil))) (.inl ⟨rfl, fun _ _ => rfl⟩) (fun _ => rfl))
 (sl_cons (ss_ret (se_neg se_i))
 sl_nil))
abbrev fm_law (outer : List Env) (base : Heap) (L : Addr) (g : Heap) (A : Around) (P : Params) : Fm := fnFm0 outer base (quOf (KK P) 393) (scOf (KK P) 393) L 393 (cdOf (KK P) 393) g A ["script", "measures", "trees", "signs", "tree", "sign", "row", "measure", "road", "mark", "walker", "whole", "rounds", "common", "rest", "ends", "odd", "goals", "since", "due"]
theorem sl_law {sa : Addr} {ns : List Int} (hscr : C.scr = some (sa, ns)) (ok : FmOk C (fm_law outer base L g A P)) (tk : TabOk C tab) (hc : CallOk C tab call n) (G : Gl C) : SL C (fm_law outer base L g A P) (n + 1) (bodyOf (KK P) 393) (ev_law sa ns call) :=
 (sl_cons (ss_asgC (j := 11) ok rfl (se_ty ok rfl rfl G.g_list (bc_list ok tk) (ss_cons (se_scr ok hscr 0 rfl) ss_nil rfl) rfl rfl) rfl)
 (sl_cons (ss_augC (j := 11) (o := .add) ok rfl (se_ty ok rfl rfl G.g_list (bc_list ok tk) (ss_cons (se_slice ok tk (se_g ok rfl rfl G.g__LAW_OWN rfl) (se_bi ok rfl rfl G.g_len (bc_len ok tk) (ss_cons (se_c ok 11 rfl) ss_nil rfl) rfl rfl) trivial) ss_nil rfl) rfl rfl))
 (sl_cons (ss_t (.cons (tg_C ok rfl) rfl (.cons (tg_L ok rfl) rfl .nil)) (se_tup (ss_cons (se_g ok rfl rfl G.g__LAW_LANES rfl) (ss_cons (se_g ok rfl rfl G.g__LAW_MEASURES rfl) ss_nil rfl) rfl)) rfl rfl)
 (sl_cons (ss_asgC (j := 8) ok rfl (se_lc ok tk ["town"] ["table", "nums"] [10, 11] rfl (se_ty ok rfl rfl G.g_range bc_range (ss_cons se_i ss_nil rfl) rfl rfl) (fun D ok1 => tc_L ok1 rfl) (fun D ok1 => trivial) (fun D ok1 => (se_sub ok1 tk (se_c ok1 0 rfl) (se_bin (o := .mod) (se_sub ok1 tk (se_c ok1 1 rfl) (se_l ok1 0 rfl) (fun _ _ => rfl)) se_i) (fun _ _ => rfl))) rfl rfl (.inl ⟨rfl, fun _ _ => rfl⟩) (fun _ => rfl)) rfl)
 (sl_cons (ss_t (.cons (tg_L ok rfl) rfl (.cons (tg_L ok rfl) rfl (.cons (tg_C ok rfl) rfl (.cons (tg_C ok rfl) rfl .nil)))) (se_tup (ss_cons (se_list ss_nil) (ss_cons (se_list ss_nil) (ss_cons (se_list ss_nil) (ss_cons (se_list ss_nil) ss_nil rfl) rfl) rfl) rfl)) rfl rfl)
 (sl_cons (ss_for ok tk (se_ty ok rfl rfl G.g_range bc_range (ss_cons se_i ss_nil rfl) rfl rfl) (tg_C ok rfl)
 (sl_cons (ss_sw (names := ["tree", "sign", "row"]) (is := [4, 5, 6]) ok (se_tup (ss_cons (se_new0 ok tk hc rfl rfl G.g_PriorityTree (G.keep 347 rfl) rfl rfl) (ss_cons se_dict0 (ss_cons (se_list ss_nil) ss_nil rfl) rfl) rfl)) ⟨rfl, rfl, rfl, trivial⟩ rfl rfl)
 (sl_cons (ss_asgL (i := 7) ok rfl (se_sub ok tk (se_l ok 1 rfl) (se_bin (o := .mod) (se_bin (o := .add) (se_sub ok tk (se_c ok 11 rfl) se_i (fun _ _ => rfl)) (se_bin (o := .mul) (se_c ok 9 rfl) (se_sub ok tk (se_c ok 11 rfl) se_i (fun _ _ => rfl)))) se_i) (fun _ _ => rfl)) rfl)
 (sl_cons (ss_for ok tk (se_ty ok rfl rfl G.g_range bc_range (ss_cons se_i ss_nil rfl) rfl rfl) (tg_L ok rfl)
 (sl_cons (ss_if (sb_plain ok (se_sub ok tk (se_sub ok tk (se_c ok 8 rfl) (se_c ok 9 rfl) (fun _ _ => rfl)) (se_l ok 8 rfl) (fun _ _ => rfl)) (fun _ => rfl))
 (sl_cons (ss_asgL (i := 9) ok rfl (se_bin (o := .mod) (se_bin (o := .add) (se_bin (o := .mul) (se_l ok 8 rfl) (se_bin (o := .add) se_i (se_bin (o := .mod) (se_bin (o := .add) (se_sub ok tk (se_c ok 11 rfl) se_i (fun _ _ => rfl)) (se_c ok 9 rfl)) se_i))) (se_sub ok tk (se_c ok 11 rfl) se_i (fun _ _ => rfl))) se_i) rfl)
 (sl_cons (ss_asgC (j := 5) ok rfl (se_ite (sb_cmp (o := .lt) ok tk hc (se_l ok 9 rfl) se_i rfl) (se_bin (o := .sub) (se_l ok 9 rfl) se_i) (se_bin (o := .sub) (se_l ok 9 rfl) se_i)) rfl)
 (sl_cons (ss_asgC (j := 4) ok rfl (se_bin (o := .mul) (se_l ok 7 rfl) (se_sub ok tk (se_sub ok tk (se_c ok 8 rfl) (se_c ok 9 rfl) (fun _ _ => rfl)) (se_l ok 8 rfl) (fun _ _ => rfl))) rfl)
 (sl_cons (ss_expr (se_meth ok tk hc (m := 9) (by decide) (se_l ok 4 rfl) (ss_cons (se_c ok 5 rfl) (ss_cons se_n (ss_cons (se_c ok 4 rfl) ss_nil rfl) rfl) rfl) rfl rfl rfl) rfl rfl)
 (sl_cons (ss_asgI ok (se_l ok 8 rfl) (se_l ok 5 rfl) (se_c ok 5 rfl) rfl)
 (sl_cons (ss_augL (i := 6) (o := .add) ok rfl (se_lc ok tk ["k"] ["weight", "number"] [4, 5] rfl (se_ty ok rfl rfl G.g_range bc_range (ss_cons (se_sub ok tk (se_sub ok tk (se_c ok 8 rfl) (se_c ok 9 rfl) (fun _ _ => rfl)) (se_l ok 8 rfl) (fun _ _ => rfl)) ss_nil rfl) rfl rfl) (fun D ok1 => tc_L ok1 rfl) (fun D ok1 => trivial) (fun D ok1 => (se_tup (ss_cons (se_bin (o := .fdiv) (se_bin (o := .mul) se_i (se_l ok1 0 rfl)) (se_c ok1 0 rfl)) (ss_cons (se_c ok1 1 rfl) ss_nil rfl) rfl))) rfl rfl (.inl ⟨rfl, fun _ _ => rfl⟩) (fun _ => rfl)))
 sl_nil))))))
 sl_nil)
 sl_nil) (.inl ⟨rfl, fun _ _ => rfl⟩) (fun _ => rfl))
 (sl_cons (ss_expr (se_lm PySem.F.slot_list_append PySem.F.type_list_append bc_append (se_l ok 2 rfl) (ss_cons (se_l ok 4 rfl) ss_nil rfl) rfl rfl rfl) rfl rfl)
 (sl_cons (ss_expr (se_lm PySem.F.slot_list_append PySem.F.type_list_append bc_append (se_l ok 3 rfl) (ss_cons (se_l ok 5 rfl) ss_nil rfl) rfl rfl rfl) rfl rfl)
 (sl_cons (ss_expr (se_lm PySem.F.slot_list_append PySem.F.type_list_append bc_append (se_c ok 7 rfl) (ss_cons (se_lc ok tk ["place", "number"] [] [] rfl (se_bi ok rfl rfl G.g_sorted bc_sorted2 (ss_cons (se_l ok 6 rfl) ss_nil rfl) rfl rfl) (fun D ok1 => tc_T (.cons (tc_L ok1 rfl) rfl (.cons (tc_L ok1 rfl) rfl .nil))) (fun D ok1 => trivial) (fun D ok1 => (se_l ok1 1 rfl)) rfl rfl (.inr ⟨rfl, ⟨_, _, _, rfl⟩, tgT_ref⟩) (fun _ => rfl)) ss_nil rfl) rfl rfl rfl) rfl rfl)
 (sl_cons (ss_expr (se_lm PySem.F.slot_list_append PySem.F.type_list_append bc_append (se_c ok 6 rfl) (ss_cons (se_list ss_nil) ss_nil rfl) rfl rfl rfl) rfl rfl)
 sl_nil))))))) (.inl ⟨rfl, fun _ _ => rfl⟩) (fun _ => rfl))
 (sl_cons (ss_for ok tk (se_ty ok rfl rfl G.g_range bc_range (ss_cons se_i ss_nil rfl) rfl rfl) (tg_C ok rfl)
 (sl_cons (ss_asgL (i := 8) ok rfl se_i rfl)
 (sl_cons (ss_while (sb_cmp (o := .lt) ok tk hc (se_l ok 8 rfl) se_i rfl)
 (sl_cons (ss_asgL (i := 8) ok rfl (se_callFn ok hc (g := 20) rfl rfl G.g__law_step (G.keep 381 rfl) rfl (ss_cons (se_sub ok tk (se_l ok 2 rfl) (se_c ok 9 rfl) (fun _ _ => rfl)) (ss_cons (se_sub ok tk (se_l ok 3 rfl) (se_c ok 9 rfl) (fun _ _ => rfl)) (ss_cons (se_sub ok tk (se_c ok 6 rfl) (se_c ok 9 rfl) (fun _ _ => rfl)) ss_nil rfl) rfl) rfl) rfl rfl) rfl)
 (sl_cons (ss_if (sb_or (sb_cmp (o := .lt) ok tk hc (se_l ok 8 rfl) se_i rfl) (sb_or (sb_cmp (o := .gt) ok tk hc (se_bi ok rfl rfl G.g_len (bc_len ok tk) (ss_cons (se_sub ok tk (se_c ok 6 rfl) (se_c ok 9 rfl) (fun _ _ => rfl)) ss_nil rfl) rfl rfl) se_i rfl) sb_or_nil))
 (sl_cons (ss_ret se_b)
 sl_nil)
 sl_nil)
 sl_nil)))
 sl_nil)) (.inl ⟨rfl, fun _ _ => rfl⟩) (fun _ => rfl))
 (sl_cons (ss_for ok tk (se_ty ok rfl rfl G.g_range bc_range (ss_cons (se_bin (o := .mod) (se_sub ok tk (se_c ok 11 rfl) se_i (fun _ _ => rfl)) se_i) ss_nil rfl) rfl rfl) (tg_L ok rfl)
 (sl_cons (ss_if (sb_cmp (o := .lt) ok tk hc (se_callFn ok hc (g := 21) rfl rfl G.g__law_walk (G.keep 388 rfl) rfl (ss_cons (se_l ok 2 rfl) (ss_cons (se_l ok 3 rfl) (ss_cons (se_c ok 6 rfl) (ss_cons (se_bin (o := .mod) (se_bin (o := .add) (se_bin (o := .fdiv) (se_sub ok tk (se_c ok 11 rfl) se_i (fun _ _ => rfl)) se_i) (se_l ok 10 rfl)) se_i) ss_nil rfl) rfl) rfl) rfl) rfl rfl) se_i rfl)
 (sl_cons (ss_ret se_b)
 sl_nil)
 sl_nil)
 sl_nil) (.inl ⟨rfl, fun _ _ => rfl⟩) (fun _ => rfl))
 (sl_cons (ss_asgC (j := 3) ok rfl (se_bin (o := .mod) (se_sub ok tk (se_c ok 11 rfl) se_i (fun _ _ => rfl)) se_i) rfl)
 (sl_cons (ss_asgC (j := 2) ok rfl (se_lc ok tk ["town"] ["lanes"] [8] rfl (se_ty ok rfl rfl G.g_range bc_range (ss_cons se_i ss_nil rfl) rfl rfl) (fun D ok1 => tc_L ok1 rfl) (fun D ok1 => trivial) (fun D ok1 => (se_bi ok1 rfl rfl G.g_sum (bc_sum ok1 tk) (ss_cons (se_sub ok1 tk (se_c ok1 0 rfl) (se_l ok1 0 rfl) (fun _ _ => rfl)) ss_nil rfl) rfl rfl)) rfl rfl (.inl ⟨rfl, fun _ _ => rfl⟩) (fun _ => rfl)) rfl)
 (sl_cons (ss_asgC (j := 1) ok rfl (se_lc ok tk [] ["out", "lanes"] [2, 8] rfl (se_ty ok rfl rfl G.g_range bc_range (ss_cons se_i ss_nil rfl) rfl rfl) (fun D ok1 => tc_C ok1 rfl) (fun D ok1 => trivial) (fun D ok1 => (se_lc ok1 tk ["other"] ["town", "out", "lanes"] [0, 1, 2] rfl (se_ty ok1 rfl rfl G.g_range bc_range (ss_cons se_i ss_nil rfl) rfl rfl) (fun D ok2 => tc_L ok2 rfl) (fun D ok2 => trivial) (fun D ok2 => (se_ite (sb_cmp (o := .eq) ok2 tk hc (se_c ok2 0 rfl) (se_l ok2 0 rfl) rfl) (se_sub ok2 tk (se_c ok2 1 rfl) (se_c ok2 0 rfl) (fun _ _ => rfl)) (se_neg (se_sub ok2 tk (se_sub ok2 tk (se_c ok2 2 rfl) (se_c ok2 0 rfl) (fun _ _ => rfl)) (se_bin (o := .sub) (se_bin (o := .mod) (se_bin (o := .sub) (se_l ok2 0 rfl) (se_c ok2 0 rfl)) se_i) se_i) (fun _ _ => rfl))))) rfl rfl (.inl ⟨rfl, fun _ _ => rfl⟩) (fun _ => rfl))) rfl rfl (.inl ⟨rfl, fun _ _ => rfl⟩) (fun _ => rfl)) rfl)
 (sl_cons (ss_sw (names := ["whole", "rounds"]) (is := [11, 12]) ok (se_tup (ss_cons (se_callFn ok hc (g := 18) rfl rfl G.g__law_det (G.keep 367 rfl) rfl (ss_cons (se_c ok 1 rfl) ss_nil rfl) rfl rfl) (ss_cons (se_list ss_nil) ss_nil rfl) rfl)) ⟨rfl, rfl, trivial⟩ rfl rfl)
 (sl_cons (ss_asgL (i := 13) ok rfl (se_l ok 11 rfl) rfl)
 (sl_cons (ss_for ok tk (se_ty ok rfl rfl G.g_range bc_range (ss_cons se_i ss_nil rfl) rfl rfl) (tg_C ok rfl)
 (sl_cons (ss_lc ok tk ["one"] ["net", "start", "town"] [1, 3, 9] rfl 14 rfl (se_ty ok rfl rfl G.g_range bc_range (ss_cons se_i ss_nil rfl) rfl rfl) (fun D ok1 => tc_L ok1 rfl) (fun D ok1 => (sb_cmp (o := .ne) ok1 tk hc (se_l ok1 0 rfl) (se_c ok1 2 rfl) rfl)) (fun D ok1 => (se_bin (o := .add) (se_slice ok1 tk (se_sub ok1 tk (se_c ok1 0 rfl) (se_l ok1 0 rfl) (fun _ _ => rfl)) trivial (se_c ok1 1 rfl)) (se_slice ok1 tk (se_sub ok1 tk (se_c ok1 0 rfl) (se_l ok1 0 rfl) (fun _ _ => rfl)) (se_bin (o := .add) (se_c ok1 1 rfl) se_i) trivial))) rfl rfl (.inl ⟨rfl, fun _ _ => rfl⟩) (fun _ => rfl) rfl)
 (sl_cons (ss_expr (se_lm PySem.F.slot_list_append PySem.F.type_list_append bc_append (se_l ok 12 rfl) (ss_cons (se_bin (o := .mul) (se_callFn ok hc (g := 18) rfl rfl G.g__law_det (G.keep 367 rfl) rfl (ss_cons (se_l ok 14 rfl) ss_nil rfl) rfl rfl) (se_ite (sb_cmp (o := .eq) ok tk hc (se_bin (o := .mod) (se_bin (o := .add) (se_c ok 9 rfl) (se_c ok 3 rfl)) se_i) se_i rfl) se_i (se_neg se_i))) ss_nil rfl) rfl rfl rfl) rfl rfl)
 (sl_cons (ss_asgL (i := 13) ok rfl (se_callFn ok hc (g := 19) rfl rfl G.g__law_common (G.keep 374 rfl) rfl (ss_cons (se_l ok 13 rfl) (ss_cons (se_sub ok tk (se_l ok 12 rfl) (se_c ok 9 rfl) (fun _ _ => rfl)) ss_nil rfl) rfl) rfl rfl) rfl)
 sl_nil))) (.inl ⟨rfl, fun _ _ => rfl⟩) (fun _ => rfl))
 (sl_cons (ss_asgC (j := 0) ok rfl (se_lc ok tk ["answers"] [] [] rfl (se_c ok 6 rfl) (fun D ok1 => tc_L ok1 rfl) (fun D ok1 => trivial) (fun D ok1 => (se_bi ok1 rfl rfl G.g_len (bc_len ok1 tk) (ss_cons (se_l ok1 0 rfl) ss_nil rfl) rfl rfl)) rfl rfl (.inl ⟨rfl, fun _ _ => rfl⟩) (fun _ => rfl)) rfl)
 (sl_cons (ss_asgL (i := 15) ok rfl (se_list ss_nil) rfl)
 (sl_cons (ss_for ok tk (se_ty ok rfl rfl G.g_range bc_range (ss_cons se_i (ss_cons (se_bin (o := .add) (se_bin (o := .fdiv) (se_l ok 11 rfl) (se_l ok 13 rfl)) se_i) ss_nil rfl) rfl) rfl rfl) (tg_L ok rfl)
 (sl_cons (ss_expr (se_lm PySem.F.slot_list_append PySem.F.type_list_append bc_append (se_l ok 15 rfl) (ss_cons (se_callFn ok hc (g := 21) rfl rfl G.g__law_walk (G.keep 388 rfl) rfl (ss_cons (se_l ok 2 rfl) (ss_cons (se_l ok 3 rfl) (ss_cons (se_c ok 6 rfl) (ss_cons (se_c ok 3 rfl) ss_nil rfl) rfl) rfl) rfl) rfl rfl) ss_nil rfl) rfl rfl rfl) rfl rfl)
 (sl_cons (ss_if (sb_cmp (o := .lt) ok tk hc (se_sub ok tk (se_l ok 15 rfl) (se_neg se_i) (fun _ _ => rfl)) se_i rfl)
 (sl_cons (ss_ret se_b)
 sl_nil)
 sl_nil)
 (sl_cons (ss_lc ok tk ["town"] ["told", "before", "out"] [6, 0, 2] rfl 16 rfl (se_ty ok rfl rfl G.g_range bc_range (ss_cons se_i ss_nil rfl) rfl rfl) (fun D ok1 => tc_L ok1 rfl) (fun D ok1 => (sb_plain ok1 (se_bin (o := .mod) (se_bin (o := .sub) (se_bi ok1 rfl rfl G.g_len (bc_len ok1 tk) (ss_cons (se_sub ok1 tk (se_c ok1 0 rfl) (se_l ok1 0 rfl) (fun _ _ => rfl)) ss_nil rfl) rfl rfl) (se_sub ok1 tk (se_c ok1 1 rfl) (se_l ok1 0 rfl) (fun _ _ => rfl))) (se_sub ok1 tk (se_c ok1 2 rfl) (se_l ok1 0 rfl) (fun _ _ => rfl))) (fun _ => rfl))) (fun D ok1 => (se_l ok1 0 rfl)) rfl rfl (.inl ⟨rfl, fun _ _ => rfl⟩) (fun _ => rfl) rfl)
 (sl_cons (ss_if (sb_cmp (o := .ne) ok tk hc (se_cmp (o := .eq) ok tk hc (se_l ok 16 rfl) (se_list ss_nil) rfl) (se_cmp (o := .eq) ok tk hc (se_l ok 10 rfl) (se_bin (o := .fdiv) (se_l ok 11 rfl) (se_l ok 13 rfl)) rfl) rfl)
 (sl_cons (ss_ret se_b)
 sl_nil)
 sl_nil)
 sl_nil)))) (.inl ⟨rfl, fun _ _ => rfl⟩) (fun _ => rfl))
 (sl_cons (ss_asgL (i := 17) ok rfl (se_list (ss_cons se_i (ss_cons se_i ss_nil rfl) rfl)) rfl)
 (sl_cons (ss_for ok tk (se_ty ok rfl rfl G.g_range bc_range (ss_cons se_i ss_nil rfl) rfl rfl) (tg_C ok rfl)
 (sl_cons (ss_asgL (i := 18) ok rfl (se_slice ok tk (se_sub ok tk (se_c ok 6 rfl) (se_c ok 9 rfl) (fun _ _ => rfl)) (se_sub ok tk (se_c ok 0 rfl) (se_c ok 9 rfl) (fun _ _ => rfl)) trivial) rfl)
 (sl_cons (ss_for ok tk (se_sub ok tk (se_l ok 3 rfl) (se_c ok 9 rfl) (fun _ _ => rfl)) (tg_C ok rfl)
 (sl_cons (ss_asgL (i := 8) ok rfl (se_sub ok tk (se_sub ok tk (se_l ok 3 rfl) (se_c ok 9 rfl) (fun _ _ => rfl)) (se_c ok 5 rfl) (fun _ _ => rfl)) rfl)
 (sl_cons (ss_asgL (i := 19) ok rfl (se_bin (o := .mul) (se_bin (o := .fdiv) (se_sub ok tk (se_l ok 12 rfl) (se_c ok 9 rfl) (fun _ _ => rfl)) (se_l ok 13 rfl)) (se_sub ok tk (se_sub ok tk (se_c ok 8 rfl) (se_c ok 9 rfl) (fun _ _ => rfl)) (se_l ok 8 rfl) (fun _ _ => rfl))) rfl)
 (sl_cons (ss_if (sb_cmp (o := .ne) ok tk hc (se_lm PySem.F.slot_list_count PySem.F.type_list_count bc_count (se_l ok 18 rfl) (ss_cons (se_c ok 5 rfl) ss_nil rfl) rfl rfl rfl) (se_l ok 19 rfl) rfl)
 (sl_cons (ss_ret se_b)
 sl_nil)
 sl_nil)
 (sl_cons (ss_if (sb_cmp (o := .gt) ok tk hc (se_l ok 8 rfl) se_i rfl)
 (sl_cons (ss_augI (op := .add) ok tk (se_l ok 17 rfl) (se_bin (o := .sub) (se_l ok 8 rfl) se_i) (se_l ok 19 rfl) (fun _ _ _ => rfl))
 sl_nil)
 sl_nil)
 sl_nil)))) (.inl ⟨rfl, fun _ _ => rfl⟩) (fun _ => rfl))
 sl_nil)) (.inl ⟨rfl, fun _ _ => rfl⟩) (fun _ => rfl))
 (sl_cons (ss_if (sb_cmp (o := .ne) ok tk hc (se_list (ss_cons (se_lm PySem.F.slot_list_count PySem.F.type_list_count bc_count (se_l ok 15 rfl) (ss_cons se_i ss_nil rfl) rfl rfl rfl) (ss_cons (se_lm PySem.F.slot_list_count PySem.F.type_list_count bc_count (se_l ok 15 rfl) (ss_cons se_i ss_nil rfl) rfl rfl rfl) ss_nil rfl) rfl)) (se_l ok 17 rfl) rfl)
 (sl_cons (ss_ret se_b)
 sl_nil)
 sl_nil)
 (sl_cons (ss_ret (se_cmp (o := .eq) ok tk hc (se_lc ok tk [] ["told", "rows", "out"] [6, 7, 2] rfl (se_ty ok rfl rfl G.g_range bc_range (ss_cons se_i ss_nil rfl) rfl rfl) (fun D ok1 => tc_C ok1 rfl) (fun D ok1 => trivial) (fun D ok1 => (se_lc ok1 tk ["k"] ["rows", "town", "out"] [2, 0, 3] rfl (se_ty ok1 rfl rfl G.g_range bc_range (ss_cons (se_bi ok1 rfl rfl G.g_len (bc_len ok1 tk) (ss_cons (se_sub ok1 tk (se_c ok1 1 rfl) (se_c ok1 0 rfl) (fun _ _ => rfl)) ss_nil rfl) rfl rfl) ss_nil rfl) rfl rfl) (fun D ok2 => tc_L ok2 rfl) (fun D ok2 => trivial) (fun D ok2 => (se_sub ok2 tk (se_sub ok2 tk (se_c ok2 0 rfl) (se_c ok2 1 rfl) (fun _ _ => rfl)) (se_bin (o := .mod) (se_l ok2 0 rfl) (se_sub ok2 tk (se_c ok2 2 rfl) (se_c ok2 1 rfl) (fun _ _ => rfl))) (fun _ _ => rfl))) rfl rfl (.inl ⟨rfl, fun _ _ => rfl⟩) (fun _ => rfl))) rfl rfl (.inl ⟨rfl, fun _ _ => rfl⟩) (fun _ => rfl)) (se_c ok 6 rfl) rfl))
 sl_nil)))))))))))))))))))))
end
end L3
end Mine

end
noncomputable section
open PySem PySem.W PyProof.Rows PySem.Calls PySem.Spec PyProof.V PySem.SeqAt
set_option linter.unusedVariables false
set_option autoImplicit false
set_option Elab.async false
set_option maxRecDepth 100000
set_option maxHeartbeats 8000000
namespace Mine
namespace L3
abbrev full__ahead : List V → Option (List V) := exact_ 2
abbrev pl__ahead : List (Option Nat) := [some 0, some 1]
abbrev pc__ahead : List (Option Nat) := []
theorem fo__ahead {C : Ctx} {P : Params} (hK : C.K = KK P) : FnOk C 28 ["one", "other"] ["one", "other"] pl__ahead pc__ahead (tab.args 0) full__ahead (quOf (KK P) 28) (scOf (KK P) 28) (cdOf (KK P) 28) (bodyOf (KK P) 28) := by
  refine fnB_of rfl ?_ (by rw [hK]; rfl) (fun fv h => ?_) (fun fv h => ?_)
  · rw [hK]
    refine ⟨_, _, _, _, _, _, _, _, _, _, _, rfl, fun s ρ args vals fa X hfa rv => ?_⟩
    obtain ⟨rfl, hl⟩ := exact_of hfa
    obtain ⟨a0, a1, rfl⟩ := len2 hl
    obtain ⟨v0, t0, rfl, r0, rv⟩ := rv.cons_inv
    obtain ⟨v1, t1, rfl, r1, rv⟩ := rv.cons_inv
    obtain rfl := rv.nil_inv
    exact ⟨[v0, v1], ⟨r0, r1, trivial⟩, rfl, BindsTo.of_eq rfl⟩
  · obtain ⟨a0, a1, rfl⟩ := len2 h
    exact ⟨rfl, rfl, trivial⟩
  · obtain ⟨a0, a1, rfl⟩ := len2 h
    exact trivial
abbrev full_heappush : List V → Option (List V) := exact_ 2
abbrev pl_heappush : List (Option Nat) := [some 0, some 1, none]
abbrev pc_heappush : List (Option Nat) := []
theorem fo_heappush {C : Ctx} {P : Params} (hK : C.K = KK P) : FnOk C 35 ["queue", "item"] ["queue", "item", "place"] pl_heappush pc_heappush (tab.args 1) full_heappush (quOf (KK P) 35) (scOf (KK P) 35) (cdOf (KK P) 35) (bodyOf (KK P) 35) := by
  refine fnB_of rfl ?_ (by rw [hK]; rfl) (fun fv h => ?_) (fun fv h => ?_)
  · rw [hK]
    refine ⟨_, _, _, _, _, _, _, _, _, _, _, rfl, fun s ρ args vals fa X hfa rv => ?_⟩
    obtain ⟨rfl, hl⟩ := exact_of hfa
    obtain ⟨a0, a1, rfl⟩ := len2 hl
    obtain ⟨v0, t0, rfl, r0, rv⟩ := rv.cons_inv
    obtain ⟨v1, t1, rfl, r1, rv⟩ := rv.cons_inv
    obtain rfl := rv.nil_inv
    exact ⟨[v0, v1], ⟨r0, r1, trivial⟩, rfl, BindsTo.of_eq rfl⟩
  · obtain ⟨a0, a1, rfl⟩ := len2 h
    exact ⟨rfl, rfl, rfl, trivial⟩
  · obtain ⟨a0, a1, rfl⟩ := len2 h
    exact trivial
abbrev full_heappop : List V → Option (List V) := exact_ 1
abbrev pl_heappop : List (Option Nat) := [some 0]
abbrev pc_heappop : List (Option Nat) := []
theorem fo_heappop {C : Ctx} {P : Params} (hK : C.K = KK P) : FnOk C 42 ["queue"] ["queue"] pl_heappop pc_heappop (tab.args 2) full_heappop (quOf (KK P) 42) (scOf (KK P) 42) (cdOf (KK P) 42) (bodyOf (KK P) 42) := by
  refine fnB_of rfl ?_ (by rw [hK]; rfl) (fun fv h => ?_) (fun fv h => ?_)
  · rw [hK]
    refine ⟨_, _, _, _, _, _, _, _, _, _, _, rfl, fun s ρ args vals fa X hfa rv => ?_⟩
    obtain ⟨rfl, hl⟩ := exact_of hfa
    obtain ⟨a0, rfl⟩ := len1 hl
    obtain ⟨v0, t0, rfl, r0, rv⟩ := rv.cons_inv
    obtain rfl := rv.nil_inv
    exact ⟨[v0], ⟨r0, trivial⟩, rfl, BindsTo.of_eq rfl⟩
  · obtain ⟨a0, rfl⟩ := len1 h
    exact ⟨rfl, trivial⟩
  · obtain ⟨a0, rfl⟩ := len1 h
    exact trivial
def full_Stream___init__ : List V → Option (List V)
  | [a0, a1] => some [a0, a1, .int 16]
  | [a0, a1, a2] => some [a0, a1, a2]
  | _ => none
abbrev pl_Stream___init__ : List (Option Nat) := [some 0, some 1, some 2]
abbrev pc_Stream___init__ : List (Option Nat) := []
theorem fo_Stream___init__ {C : Ctx} {P : Params} (hK : C.K = KK P) : FnOk C 155 ["self", "stream_id", "weight"] ["self", "stream_id", "weight"] pl_Stream___init__ pc_Stream___init__ (tab.args 3) full_Stream___init__ (quOf (KK P) 155) (scOf (KK P) 155) (cdOf (KK P) 155) (bodyOf (KK P) 155) := by
  refine fnB_of rfl ?_ (by rw [hK]; rfl) (fun fv h => ?_) (fun fv h => ?_)
  · rw [hK]
    refine ⟨_, _, _, _, _, _, _, _, _, _, _, rfl, fun s ρ args vals fa X hfa rv => ?_⟩
    unfold full_Stream___init__ at hfa
    split at hfa <;> first | (cases hfa; done) | skip
    · cases hfa
      obtain ⟨v0, t0, rfl, r0, rv⟩ := rv.cons_inv
      obtain ⟨v1, t1, rfl, r1, rv⟩ := rv.cons_inv
      obtain rfl := rv.nil_inv
      refine ⟨[v0, v1, _], ?_, rfl, binds_K (T := 148) X rfl rfl rfl rfl rfl⟩
      exact ⟨r0, r1, rfl, trivial⟩
    · cases hfa
      obtain ⟨v0, t0, rfl, r0, rv⟩ := rv.cons_inv
      obtain ⟨v1, t1, rfl, r1, rv⟩ := rv.cons_inv
      obtain ⟨v2, t2, rfl, r2, rv⟩ := rv.cons_inv
      obtain rfl := rv.nil_inv
      refine ⟨[v0, v1, v2], ⟨r0, r1, r2, trivial⟩, rfl, ?_⟩
      first | exact BindsTo.of_eq rfl | exact binds_K (T := 148) X rfl rfl rfl rfl rfl
  · obtain ⟨a0, a1, a2, rfl⟩ := len3 h
    exact ⟨rfl, rfl, rfl, trivial⟩
  · obtain ⟨a0, a1, a2, rfl⟩ := len3 h
    exact trivial
abbrev full_Stream_weight : List V → Option (List V) := exact_ 1
abbrev pl_Stream_weight : List (Option Nat) := [some 0]
abbrev pc_Stream_weight : List (Option Nat) := []
theorem fo_Stream_weight {C : Ctx} {P : Params} (hK : C.K = KK P) : FnOk C 162 ["self"] ["self"] pl_Stream_weight pc_Stream_weight (tab.args 4) full_Stream_weight (quOf (KK P) 162) (scOf (KK P) 162) (cdOf (KK P) 162) (bodyOf (KK P) 162) := by
  refine fnB_of rfl ?_ (by rw [hK]; rfl) (fun fv h => ?_) (fun fv h => ?_)
  · rw [hK]
    refine ⟨_, _, _, _, _, _, _, _, _, _, _, rfl, fun s ρ args vals fa X hfa rv => ?_⟩
    obtain ⟨rfl, hl⟩ := exact_of hfa
    obtain ⟨a0, rfl⟩ := len1 hl
    obtain ⟨v0, t0, rfl, r0, rv⟩ := rv.cons_inv
    obtain rfl := rv.nil_inv
    exact ⟨[v0], ⟨r0, trivial⟩, rfl, BindsTo.of_eq rfl⟩
  · obtain ⟨a0, rfl⟩ := len1 h
    exact ⟨rfl, trivial⟩
  · obtain ⟨a0, rfl⟩ := len1 h
    exact trivial
abbrev full_Stream_weight_set : List V → Option (List V) := exact_ 2
abbrev pl_Stream_weight_set : List (Option Nat) := [some 0, some 1]
abbrev pc_Stream_weight_set : List (Option Nat) := []
theorem fo_Stream_weight_set {C : Ctx} {P : Params} (hK : C.K = KK P) : FnOk C 171 ["self", "value"] ["self", "value"] pl_Stream_weight_set pc_Stream_weight_set (tab.args 5) full_Stream_weight_set (quOf (KK P) 171) (scOf (KK P) 171) (cdOf (KK P) 171) (bodyOf (KK P) 171) := by
  refine fnB_of rfl ?_ (by rw [hK]; rfl) (fun fv h => ?_) (fun fv h => ?_)
  · rw [hK]
    refine ⟨_, _, _, _, _, _, _, _, _, _, _, rfl, fun s ρ args vals fa X hfa rv => ?_⟩
    obtain ⟨rfl, hl⟩ := exact_of hfa
    obtain ⟨a0, a1, rfl⟩ := len2 hl
    obtain ⟨v0, t0, rfl, r0, rv⟩ := rv.cons_inv
    obtain ⟨v1, t1, rfl, r1, rv⟩ := rv.cons_inv
    obtain rfl := rv.nil_inv
    exact ⟨[v0, v1], ⟨r0, r1, trivial⟩, rfl, BindsTo.of_eq rfl⟩
  · obtain ⟨a0, a1, rfl⟩ := len2 h
    exact ⟨rfl, rfl, trivial⟩
  · obtain ⟨a0, a1, rfl⟩ := len2 h
    exact trivial
abbrev full_Stream_add_child : List V → Option (List V) := exact_ 2
abbrev pl_Stream_add_child : List (Option Nat) := [some 0, some 1]
abbrev pc_Stream_add_child : List (Option Nat) := []
theorem fo_Stream_add_child {C : Ctx} {P : Params} (hK : C.K = KK P) : FnOk C 179 ["self", "child"] ["self", "child"] pl_Stream_add_child pc_Stream_add_child (tab.args 6) full_Stream_add_child (quOf (KK P) 179) (scOf (KK P) 179) (cdOf (KK P) 179) (bodyOf (KK P) 179) := by
  refine fnB_of rfl ?_ (by rw [hK]; rfl) (fun fv h => ?_) (fun fv h => ?_)
  · rw [hK]
    refine ⟨_, _, _, _, _, _, _, _, _, _, _, rfl, fun s ρ args vals fa X hfa rv => ?_⟩
    obtain ⟨rfl, hl⟩ := exact_of hfa
    obtain ⟨a0, a1, rfl⟩ := len2 hl
    obtain ⟨v0, t0, rfl, r0, rv⟩ := rv.cons_inv
    obtain ⟨v1, t1, rfl, r1, rv⟩ := rv.cons_inv
    obtain rfl := rv.nil_inv
    exact ⟨[v0, v1], ⟨r0, r1, trivial⟩, rfl, BindsTo.of_eq rfl⟩
  · obtain ⟨a0, a1, rfl⟩ := len2 h
    exact ⟨rfl, rfl, trivial⟩
  · obtain ⟨a0, a1, rfl⟩ := len2 h
    exact trivial
abbrev full_Stream_add_child_exclusive : List V → Option (List V) := exact_ 2
abbrev pl_Stream_add_child_exclusive : List (Option Nat) := [some 0, some 1, none, none]
abbrev pc_Stream_add_child_exclusive : List (Option Nat) := []
theorem fo_Stream_add_child_exclusive {C : Ctx} {P : Params} (hK : C.K = KK P) : FnOk C 186 ["self", "child"] ["self", "child", "old_children", "old_child"] pl_Stream_add_child_exclusive pc_Stream_add_child_exclusive (tab.args 7) full_Stream_add_child_exclusive (quOf (KK P) 186) (scOf (KK P) 186) (cdOf (KK P) 186) (bodyOf (KK P) 186) := by
  refine fnB_of rfl ?_ (by rw [hK]; rfl) (fun fv h => ?_) (fun fv h => ?_)
  · rw [hK]
    refine ⟨_, _, _, _, _, _, _, _, _, _, _, rfl, fun s ρ args vals fa X hfa rv => ?_⟩
    obtain ⟨rfl, hl⟩ := exact_of hfa
    obtain ⟨a0, a1, rfl⟩ := len2 hl
    obtain ⟨v0, t0, rfl, r0, rv⟩ := rv.cons_inv
    obtain ⟨v1, t1, rfl, r1, rv⟩ := rv.cons_inv
    obtain rfl := rv.nil_inv
    exact ⟨[v0, v1], ⟨r0, r1, trivial⟩, rfl, BindsTo.of_eq rfl⟩
  · obtain ⟨a0, a1, rfl⟩ := len2 h
    exact ⟨rfl, rfl, rfl, rfl, trivial⟩
  · obtain ⟨a0, a1, rfl⟩ := len2 h
    exact trivial
abbrev full_Stream_schedule : List V → Option (List V) := exact_ 1
abbrev pl_Stream_schedule : List (Option Nat) := [some 0, none, none, none, none, none]
abbrev pc_Stream_schedule : List (Option Nat) := []
theorem fo_Stream_schedule {C : Ctx} {P : Params} (hK : C.K = KK P) : FnOk C 201 ["self"] ["self", "next_stream", "popped_streams", "val", "level", "child"] pl_Stream_schedule pc_Stream_schedule (tab.args 8) full_Stream_schedule (quOf (KK P) 201) (scOf (KK P) 201) (cdOf (KK P) 201) (bodyOf (KK P) 201) := by
  refine fnB_of rfl ?_ (by rw [hK]; rfl) (fun fv h => ?_) (fun fv h => ?_)
  · rw [hK]
    refine ⟨_, _, _, _, _, _, _, _, _, _, _, rfl, fun s ρ args vals fa X hfa rv => ?_⟩
    obtain ⟨rfl, hl⟩ := exact_of hfa
    obtain ⟨a0, rfl⟩ := len1 hl
    obtain ⟨v0, t0, rfl, r0, rv⟩ := rv.cons_inv
    obtain rfl := rv.nil_inv
    exact ⟨[v0], ⟨r0, trivial⟩, rfl, BindsTo.of_eq rfl⟩
  · obtain ⟨a0, rfl⟩ := len1 h
    exact ⟨rfl, rfl, rfl, rfl, rfl, rfl, trivial⟩
  · obtain ⟨a0, rfl⟩ := len1 h
    exact trivial
abbrev full_Stream___eq__ : List V → Option (List V) := exact_ 2
abbrev pl_Stream___eq__ : List (Option Nat) := [some 0, some 1]
abbrev pc_Stream___eq__ : List (Option Nat) := []
theorem fo_Stream___eq__ {C : Ctx} {P : Params} (hK : C.K = KK P) : FnOk C 215 ["self", "other"] ["self", "other"] pl_Stream___eq__ pc_Stream___eq__ (tab.args 9) full_Stream___eq__ (quOf (KK P) 215) (scOf (KK P) 215) (cdOf (KK P) 215) (bodyOf (KK P) 215) := by
  refine fnB_of rfl ?_ (by rw [hK]; rfl) (fun fv h => ?_) (fun fv h => ?_)
  · rw [hK]
    refine ⟨_, _, _, _, _, _, _, _, _, _, _, rfl, fun s ρ args vals fa X hfa rv => ?_⟩
    obtain ⟨rfl, hl⟩ := exact_of hfa
    obtain ⟨a0, a1, rfl⟩ := len2 hl
    obtain ⟨v0, t0, rfl, r0, rv⟩ := rv.cons_inv
    obtain ⟨v1, t1, rfl, r1, rv⟩ := rv.cons_inv
    obtain rfl := rv.nil_inv
    exact ⟨[v0, v1], ⟨r0, r1, trivial⟩, rfl, BindsTo.of_eq rfl⟩
  · obtain ⟨a0, a1, rfl⟩ := len2 h
    exact ⟨rfl, rfl, trivial⟩
  · obtain ⟨a0, a1, rfl⟩ := len2 h
    exact trivial
abbrev full_Stream___lt__ : List V → Option (List V) := exact_ 2
abbrev pl_Stream___lt__ : List (Option Nat) := [some 0, some 1]
abbrev pc_Stream___lt__ : List (Option Nat) := []
theorem fo_Stream___lt__ {C : Ctx} {P : Params} (hK : C.K = KK P) : FnOk C 229 ["self", "other"] ["self", "other"] pl_Stream___lt__ pc_Stream___lt__ (tab.args 10) full_Stream___lt__ (quOf (KK P) 229) (scOf (KK P) 229) (cdOf (KK P) 229) (bodyOf (KK P) 229) := by
  refine fnB_of rfl ?_ (by rw [hK]; rfl) (fun fv h => ?_) (fun fv h => ?_)
  · rw [hK]
    refine ⟨_, _, _, _, _, _, _, _, _, _, _, rfl, fun s ρ args vals fa X hfa rv => ?_⟩
    obtain ⟨rfl, hl⟩ := exact_of hfa
    obtain ⟨a0, a1, rfl⟩ := len2 hl
    obtain ⟨v0, t0, rfl, r0, rv⟩ := rv.cons_inv
    obtain ⟨v1, t1, rfl, r1, rv⟩ := rv.cons_inv
    obtain rfl := rv.nil_inv
    exact ⟨[v0, v1], ⟨r0, r1, trivial⟩, rfl, BindsTo.of_eq rfl⟩
  · obtain ⟨a0, a1, rfl⟩ := len2 h
    exact ⟨rfl, rfl, trivial⟩
  · obtain ⟨a0, a1, rfl⟩ := len2 h
    exact trivial
def full_PriorityTree___init__ : List V → Option (List V)
  | [a0] => some [a0, .int 1000]
  | [a0, a1] => some [a0, a1]
  | _ => none
abbrev pl_PriorityTree___init__ : List (Option Nat) := [some 0, some 1]
abbrev pc_PriorityTree___init__ : List (Option Nat) := []
theorem fo_PriorityTree___init__ {C : Ctx} {P : Params} (hK : C.K = KK P) : FnOk C 272 ["self", "maximum_streams"] ["self", "maximum_streams"] pl_PriorityTree___init__ pc_PriorityTree___init__ (tab.args 11) full_PriorityTree___init__ (quOf (KK P) 272) (scOf (KK P) 272) (cdOf (KK P) 272) (bodyOf (KK P) 272) := by
  refine fnB_of rfl ?_ (by rw [hK]; rfl) (fun fv h => ?_) (fun fv h => ?_)
  · rw [hK]
    refine ⟨_, _, _, _, _, _, _, _, _, _, _, rfl, fun s ρ args vals fa X hfa rv => ?_⟩
    unfold full_PriorityTree___init__ at hfa
    split at hfa <;> first | (cases hfa; done) | skip
    · cases hfa
      obtain ⟨v0, t0, rfl, r0, rv⟩ := rv.cons_inv
      obtain rfl := rv.nil_inv
      refine ⟨[v0, _], ?_, rfl, binds_K (T := 265) X rfl rfl rfl rfl rfl⟩
      exact ⟨r0, rfl, trivial⟩
    · cases hfa
      obtain ⟨v0, t0, rfl, r0, rv⟩ := rv.cons_inv
      obtain ⟨v1, t1, rfl, r1, rv⟩ := rv.cons_inv
      obtain rfl := rv.nil_inv
      refine ⟨[v0, v1], ⟨r0, r1, trivial⟩, rfl, ?_⟩
      first | exact BindsTo.of_eq rfl | exact binds_K (T := 265) X rfl rfl rfl rfl rfl
  · obtain ⟨a0, a1, rfl⟩ := len2 h
    exact ⟨rfl, rfl, trivial⟩
  · obtain ⟨a0, a1, rfl⟩ := len2 h
    exact trivial
abbrev full_PriorityTree__get_or_insert_parent : List V → Option (List V) := exact_ 2
abbrev pl_PriorityTree__get_or_insert_parent : List (Option Nat) := [some 0, some 1]
abbrev pc_PriorityTree__get_or_insert_parent : List (Option Nat) := []
theorem fo_PriorityTree__get_or_insert_parent {C : Ctx} {P : Params} (hK : C.K = KK P) : FnOk C 279 ["self", "parent_stream_id"] ["self", "parent_stream_id"] pl_PriorityTree__get_or_insert_parent pc_PriorityTree__get_or_insert_parent (tab.args 12) full_PriorityTree__get_or_insert_parent (quOf (KK P) 279) (scOf (KK P) 279) (cdOf (KK P) 279) (bodyOf (KK P) 279) := by
  refine fnB_of rfl ?_ (by rw [hK]; rfl) (fun fv h => ?_) (fun fv h => ?_)
  · rw [hK]
    refine ⟨_, _, _, _, _, _, _, _, _, _, _, rfl, fun s ρ args vals fa X hfa rv => ?_⟩
    obtain ⟨rfl, hl⟩ := exact_of hfa
    obtain ⟨a0, a1, rfl⟩ := len2 hl
    obtain ⟨v0, t0, rfl, r0, rv⟩ := rv.cons_inv
    obtain ⟨v1, t1, rfl, r1, rv⟩ := rv.cons_inv
    obtain rfl := rv.nil_inv
    exact ⟨[v0, v1], ⟨r0, r1, trivial⟩, rfl, BindsTo.of_eq rfl⟩
  · obtain ⟨a0, a1, rfl⟩ := len2 h
    exact ⟨rfl, rfl, trivial⟩
  · obtain ⟨a0, a1, rfl⟩ := len2 h
    exact trivial
abbrev full_PriorityTree__exclusive_insert : List V → Option (List V) := exact_ 3
abbrev pl_PriorityTree__exclusive_insert : List (Option Nat) := [some 0, some 1, some 2]
abbrev pc_PriorityTree__exclusive_insert : List (Option Nat) := []
theorem fo_PriorityTree__exclusive_insert {C : Ctx} {P : Params} (hK : C.K = KK P) : FnOk C 286 ["self", "parent_stream", "inserted_stream"] ["self", "parent_stream", "inserted_stream"] pl_PriorityTree__exclusive_insert pc_PriorityTree__exclusive_insert (tab.args 13) full_PriorityTree__exclusive_insert (quOf (KK P) 286) (scOf (KK P) 286) (cdOf (KK P) 286) (bodyOf (KK P) 286) := by
  refine fnB_of rfl ?_ (by rw [hK]; rfl) (fun fv h => ?_) (fun fv h => ?_)
  · rw [hK]
    refine ⟨_, _, _, _, _, _, _, _, _, _, _, rfl, fun s ρ args vals fa X hfa rv => ?_⟩
    obtain ⟨rfl, hl⟩ := exact_of hfa
    obtain ⟨a0, a1, a2, rfl⟩ := len3 hl
    obtain ⟨v0, t0, rfl, r0, rv⟩ := rv.cons_inv
    obtain ⟨v1, t1, rfl, r1, rv⟩ := rv.cons_inv
    obtain ⟨v2, t2, rfl, r2, rv⟩ := rv.cons_inv
    obtain rfl := rv.nil_inv
    exact ⟨[v0, v1, v2], ⟨r0, r1, r2, trivial⟩, rfl, BindsTo.of_eq rfl⟩
  · obtain ⟨a0, a1, a2, rfl⟩ := len3 h
    exact ⟨rfl, rfl, rfl, trivial⟩
  · obtain ⟨a0, a1, a2, rfl⟩ := len3 h
    exact trivial
def full_PriorityTree_insert_stream : List V → Option (List V)
  | [a0, a1] => some [a0, a1, .none, .int 16, .bool false]
  | [a0, a1, a2] => some [a0, a1, a2, .int 16, .bool false]
  | [a0, a1, a2, a3] => some [a0, a1, a2, a3, .bool false]
  | [a0, a1, a2, a3, a4] => some [a0, a1, a2, a3, a4]
  | _ => none
abbrev pl_PriorityTree_insert_stream : List (Option Nat) := [some 0, some 1, some 2, some 3, some 4, none, none, none]
abbrev pc_PriorityTree_insert_stream : List (Option Nat) := []
theorem fo_PriorityTree_insert_stream {C : Ctx} {P : Params} (hK : C.K = KK P) : FnOk C 294 ["self", "stream_id", "depends_on", "weight", "exclusive"] ["self", "stream_id", "depends_on", "weight", "exclusive", "stream", "parent_stream", "parent"] pl_PriorityTree_insert_stream pc_PriorityTree_insert_stream (tab.args 14) full_PriorityTree_insert_stream (quOf (KK P) 294) (scOf (KK P) 294) (cdOf (KK P) 294) (bodyOf (KK P) 294) := by
  refine fnB_of rfl ?_ (by rw [hK]; rfl) (fun fv h => ?_) (fun fv h => ?_)
  · rw [hK]
    refine ⟨_, _, _, _, _, _, _, _, _, _, _, rfl, fun s ρ args vals fa X hfa rv => ?_⟩
    unfold full_PriorityTree_insert_stream at hfa
    split at hfa <;> first | (cases hfa; done) | skip
    · cases hfa
      obtain ⟨v0, t0, rfl, r0, rv⟩ := rv.cons_inv
      obtain ⟨v1, t1, rfl, r1, rv⟩ := rv.cons_inv
      obtain rfl := rv.nil_inv
      refine ⟨[v0, v1, _, _, _], ?_, rfl, binds_K (T := 287) X rfl rfl rfl rfl rfl⟩
      exact ⟨r0, r1, trivial, rfl, rfl, trivial⟩
    · cases hfa
      obtain ⟨v0, t0, rfl, r0, rv⟩ := rv.cons_inv
      obtain ⟨v1, t1, rfl, r1, rv⟩ := rv.cons_inv
      obtain ⟨v2, t2, rfl, r2, rv⟩ := rv.cons_inv
      obtain rfl := rv.nil_inv
      refine ⟨[v0, v1, v2, _, _], ?_, rfl, binds_K (T := 287) X rfl rfl rfl rfl rfl⟩
      exact ⟨r0, r1, r2, rfl, rfl, trivial⟩
    · cases hfa
      obtain ⟨v0, t0, rfl, r0, rv⟩ := rv.cons_inv
      obtain ⟨v1, t1, rfl, r1, rv⟩ := rv.cons_inv
      obtain ⟨v2, t2, rfl, r2, rv⟩ := rv.cons_inv
      obtain ⟨v3, t3, rfl, r3, rv⟩ := rv.cons_inv
      obtain rfl := rv.nil_inv
      refine ⟨[v0, v1, v2, v3, _], ?_, rfl, binds_K (T := 287) X rfl rfl rfl rfl rfl⟩
      exact ⟨r0, r1, r2, r3, rfl, trivial⟩
    · cases hfa
      obtain ⟨v0, t0, rfl, r0, rv⟩ := rv.cons_inv
      obtain ⟨v1, t1, rfl, r1, rv⟩ := rv.cons_inv
      obtain ⟨v2, t2, rfl, r2, rv⟩ := rv.cons_inv
      obtain ⟨v3, t3, rfl, r3, rv⟩ := rv.cons_inv
      obtain ⟨v4, t4, rfl, r4, rv⟩ := rv.cons_inv
      obtain rfl := rv.nil_inv
      refine ⟨[v0, v1, v2, v3, v4], ⟨r0, r1, r2, r3, r4, trivial⟩, rfl, ?_⟩
      first | exact BindsTo.of_eq rfl | exact binds_K (T := 287) X rfl rfl rfl rfl rfl
  · obtain ⟨a0, a1, a2, a3, a4, rfl⟩ := len5 h
    exact ⟨rfl, rfl, rfl, rfl, rfl, rfl, rfl, rfl, trivial⟩
  · obtain ⟨a0, a1, a2, a3, a4, rfl⟩ := len5 h
    exact trivial
abbrev full_PriorityTree_block : List V → Option (List V) := exact_ 2
abbrev pl_PriorityTree_block : List (Option Nat) := [some 0, some 1]
abbrev pc_PriorityTree_block : List (Option Nat) := []
theorem fo_PriorityTree_block {C : Ctx} {P : Params} (hK : C.K = KK P) : FnOk C 316 ["self", "stream_id"] ["self", "stream_id"] pl_PriorityTree_block pc_PriorityTree_block (tab.args 15) full_PriorityTree_block (quOf (KK P) 316) (scOf (KK P) 316) (cdOf (KK P) 316) (bodyOf (KK P) 316) := by
  refine fnB_of rfl ?_ (by rw [hK]; rfl) (fun fv h => ?_) (fun fv h => ?_)
  · rw [hK]
    refine ⟨_, _, _, _, _, _, _, _, _, _, _, rfl, fun s ρ args vals fa X hfa rv => ?_⟩
    obtain ⟨rfl, hl⟩ := exact_of hfa
    obtain ⟨a0, a1, rfl⟩ := len2 hl
    obtain ⟨v0, t0, rfl, r0, rv⟩ := rv.cons_inv
    obtain ⟨v1, t1, rfl, r1, rv⟩ := rv.cons_inv
    obtain rfl := rv.nil_inv
    exact ⟨[v0, v1], ⟨r0, r1, trivial⟩, rfl, BindsTo.of_eq rfl⟩
  · obtain ⟨a0, a1, rfl⟩ := len2 h
    exact ⟨rfl, rfl, trivial⟩
  · obtain ⟨a0, a1, rfl⟩ := len2 h
    exact trivial
abbrev full_PriorityTree___next__ : List V → Option (List V) := exact_ 1
abbrev pl_PriorityTree___next__ : List (Option Nat) := [some 0]
abbrev pc_PriorityTree___next__ : List (Option Nat) := []
theorem fo_PriorityTree___next__ {C : Ctx} {P : Params} (hK : C.K = KK P) : FnOk C 337 ["self"] ["self"] pl_PriorityTree___next__ pc_PriorityTree___next__ (tab.args 16) full_PriorityTree___next__ (quOf (KK P) 337) (scOf (KK P) 337) (cdOf (KK P) 337) (bodyOf (KK P) 337) := by
  refine fnB_of rfl ?_ (by rw [hK]; rfl) (fun fv h => ?_) (fun fv h => ?_)
  · rw [hK]
    refine ⟨_, _, _, _, _, _, _, _, _, _, _, rfl, fun s ρ args vals fa X hfa rv => ?_⟩
    obtain ⟨rfl, hl⟩ := exact_of hfa
    obtain ⟨a0, rfl⟩ := len1 hl
    obtain ⟨v0, t0, rfl, r0, rv⟩ := rv.cons_inv
    obtain rfl := rv.nil_inv
    exact ⟨[v0], ⟨r0, trivial⟩, rfl, BindsTo.of_eq rfl⟩
  · obtain ⟨a0, rfl⟩ := len1 h
    exact ⟨rfl, trivial⟩
  · obtain ⟨a0, rfl⟩ := len1 h
    exact trivial
abbrev full_PriorityTree_next : List V → Option (List V) := exact_ 1
abbrev pl_PriorityTree_next : List (Option Nat) := [some 0]
abbrev pc_PriorityTree_next : List (Option Nat) := []
theorem fo_PriorityTree_next {C : Ctx} {P : Params} (hK : C.K = KK P) : FnOk C 344 ["self"] ["self"] pl_PriorityTree_next pc_PriorityTree_next (tab.args 17) full_PriorityTree_next (quOf (KK P) 344) (scOf (KK P) 344) (cdOf (KK P) 344) (bodyOf (KK P) 344) := by
  refine fnB_of rfl ?_ (by rw [hK]; rfl) (fun fv h => ?_) (fun fv h => ?_)
  · rw [hK]
    refine ⟨_, _, _, _, _, _, _, _, _, _, _, rfl, fun s ρ args vals fa X hfa rv => ?_⟩
    obtain ⟨rfl, hl⟩ := exact_of hfa
    obtain ⟨a0, rfl⟩ := len1 hl
    obtain ⟨v0, t0, rfl, r0, rv⟩ := rv.cons_inv
    obtain rfl := rv.nil_inv
    exact ⟨[v0], ⟨r0, trivial⟩, rfl, BindsTo.of_eq rfl⟩
  · obtain ⟨a0, rfl⟩ := len1 h
    exact ⟨rfl, trivial⟩
  · obtain ⟨a0, rfl⟩ := len1 h
    exact trivial
abbrev full__law_det : List V → Option (List V) := exact_ 1
abbrev pl__law_det : List (Option Nat) := [some 0, none, none]
abbrev pc__law_det : List (Option Nat) := [none]
theorem fo__law_det {C : Ctx} {P : Params} (hK : C.K = KK P) : FnOk C 367 ["rows"] ["rows", "total", "sign"] pl__law_det pc__law_det (tab.args 18) full__law_det (quOf (KK P) 367) (scOf (KK P) 367) (cdOf (KK P) 367) (bodyOf (KK P) 367) := by
  refine fnB_of rfl ?_ (by rw [hK]; rfl) (fun fv h => ?_) (fun fv h => ?_)
  · rw [hK]
    refine ⟨_, _, _, _, _, _, _, _, _, _, _, rfl, fun s ρ args vals fa X hfa rv => ?_⟩
    obtain ⟨rfl, hl⟩ := exact_of hfa
    obtain ⟨a0, rfl⟩ := len1 hl
    obtain ⟨v0, t0, rfl, r0, rv⟩ := rv.cons_inv
    obtain rfl := rv.nil_inv
    exact ⟨[v0], ⟨r0, trivial⟩, rfl, BindsTo.of_eq rfl⟩
  · obtain ⟨a0, rfl⟩ := len1 h
    exact ⟨rfl, rfl, rfl, trivial⟩
  · obtain ⟨a0, rfl⟩ := len1 h
    exact ⟨rfl, trivial⟩
abbrev full__law_common : List V → Option (List V) := exact_ 2
abbrev pl__law_common : List (Option Nat) := [some 0, some 1]
abbrev pc__law_common : List (Option Nat) := []
theorem fo__law_common {C : Ctx} {P : Params} (hK : C.K = KK P) : FnOk C 374 ["one", "other"] ["one", "other"] pl__law_common pc__law_common (tab.args 19) full__law_common (quOf (KK P) 374) (scOf (KK P) 374) (cdOf (KK P) 374) (bodyOf (KK P) 374) := by
  refine fnB_of rfl ?_ (by rw [hK]; rfl) (fun fv h => ?_) (fun fv h => ?_)
  · rw [hK]
    refine ⟨_, _, _, _, _, _, _, _, _, _, _, rfl, fun s ρ args vals fa X hfa rv => ?_⟩
    obtain ⟨rfl, hl⟩ := exact_of hfa
    obtain ⟨a0, a1, rfl⟩ := len2 hl
    obtain ⟨v0, t0, rfl, r0, rv⟩ := rv.cons_inv
    obtain ⟨v1, t1, rfl, r1, rv⟩ := rv.cons_inv
    obtain rfl := rv.nil_inv
    exact ⟨[v0, v1], ⟨r0, r1, trivial⟩, rfl, BindsTo.of_eq rfl⟩
  · obtain ⟨a0, a1, rfl⟩ := len2 h
    exact ⟨rfl, rfl, trivial⟩
  · obtain ⟨a0, a1, rfl⟩ := len2 h
    exact trivial
abbrev full__law_step : List V → Option (List V) := exact_ 3
abbrev pl__law_step : List (Option Nat) := [some 0, some 1, some 2, none]
abbrev pc__law_step : List (Option Nat) := []
theorem fo__law_step {C : Ctx} {P : Params} (hK : C.K = KK P) : FnOk C 381 ["tree", "sign", "answers"] ["tree", "sign", "answers", "number"] pl__law_step pc__law_step (tab.args 20) full__law_step (quOf (KK P) 381) (scOf (KK P) 381) (cdOf (KK P) 381) (bodyOf (KK P) 381) := by
  refine fnB_of rfl ?_ (by rw [hK]; rfl) (fun fv h => ?_) (fun fv h => ?_)
  · rw [hK]
    refine ⟨_, _, _, _, _, _, _, _, _, _, _, rfl, fun s ρ args vals fa X hfa rv => ?_⟩
    obtain ⟨rfl, hl⟩ := exact_of hfa
    obtain ⟨a0, a1, a2, rfl⟩ := len3 hl
    obtain ⟨v0, t0, rfl, r0, rv⟩ := rv.cons_inv
    obtain ⟨v1, t1, rfl, r1, rv⟩ := rv.cons_inv
    obtain ⟨v2, t2, rfl, r2, rv⟩ := rv.cons_inv
    obtain rfl := rv.nil_inv
    exact ⟨[v0, v1, v2], ⟨r0, r1, r2, trivial⟩, rfl, BindsTo.of_eq rfl⟩
  · obtain ⟨a0, a1, a2, rfl⟩ := len3 h
    exact ⟨rfl, rfl, rfl, rfl, trivial⟩
  · obtain ⟨a0, a1, a2, rfl⟩ := len3 h
    exact trivial
abbrev full__law_walk : List V → Option (List V) := exact_ 4
abbrev pl__law_walk : List (Option Nat) := [some 0, some 1, some 2, some 3, none, none]
abbrev pc__law_walk : List (Option Nat) := []
theorem fo__law_walk {C : Ctx} {P : Params} (hK : C.K = KK P) : FnOk C 388 ["trees", "signs", "told", "at"] ["trees", "signs", "told", "at", "turn", "road"] pl__law_walk pc__law_walk (tab.args 21) full__law_walk (quOf (KK P) 388) (scOf (KK P) 388) (cdOf (KK P) 388) (bodyOf (KK P) 388) := by
  refine fnB_of rfl ?_ (by rw [hK]; rfl) (fun fv h => ?_) (fun fv h => ?_)
  · rw [hK]
    refine ⟨_, _, _, _, _, _, _, _, _, _, _, rfl, fun s ρ args vals fa X hfa rv => ?_⟩
    obtain ⟨rfl, hl⟩ := exact_of hfa
    obtain ⟨a0, a1, a2, a3, rfl⟩ := len4 hl
    obtain ⟨v0, t0, rfl, r0, rv⟩ := rv.cons_inv
    obtain ⟨v1, t1, rfl, r1, rv⟩ := rv.cons_inv
    obtain ⟨v2, t2, rfl, r2, rv⟩ := rv.cons_inv
    obtain ⟨v3, t3, rfl, r3, rv⟩ := rv.cons_inv
    obtain rfl := rv.nil_inv
    exact ⟨[v0, v1, v2, v3], ⟨r0, r1, r2, r3, trivial⟩, rfl, BindsTo.of_eq rfl⟩
  · obtain ⟨a0, a1, a2, a3, rfl⟩ := len4 h
    exact ⟨rfl, rfl, rfl, rfl, rfl, rfl, trivial⟩
  · obtain ⟨a0, a1, a2, a3, rfl⟩ := len4 h
    exact trivial
abbrev full_law : List V → Option (List V) := exact_ 1
abbrev pl_law : List (Option Nat) := [some 0, none, none, none, none, none, none, none, none, none, none, none, none, none, none, none, none, none, none, none]
abbrev pc_law : List (Option Nat) := [none, none, none, none, none, none, none, none, none, none, none, none]
theorem fo_law {C : Ctx} {P : Params} (hK : C.K = KK P) : FnOk C 393 ["script"] ["script", "measures", "trees", "signs", "tree", "sign", "row", "measure", "road", "mark", "walker", "whole", "rounds", "common", "rest", "ends", "odd", "goals", "since", "due"] pl_law pc_law (tab.args 22) full_law (quOf (KK P) 393) (scOf (KK P) 393) (cdOf (KK P) 393) (bodyOf (KK P) 393) := by
  refine fnB_of rfl ?_ (by rw [hK]; rfl) (fun fv h => ?_) (fun fv h => ?_)
  · rw [hK]
    refine ⟨_, _, _, _, _, _, _, _, _, _, _, rfl, fun s ρ args vals fa X hfa rv => ?_⟩
    obtain ⟨rfl, hl⟩ := exact_of hfa
    obtain ⟨a0, rfl⟩ := len1 hl
    obtain ⟨v0, t0, rfl, r0, rv⟩ := rv.cons_inv
    obtain rfl := rv.nil_inv
    exact ⟨[v0], ⟨r0, trivial⟩, rfl, BindsTo.of_eq rfl⟩
  · obtain ⟨a0, rfl⟩ := len1 h
    exact ⟨rfl, rfl, rfl, rfl, rfl, rfl, rfl, rfl, rfl, rfl, rfl, rfl, rfl, rfl, rfl, rfl, rfl, rfl, rfl, rfl, trivial⟩
  · obtain ⟨a0, rfl⟩ := len1 h
    exact ⟨rfl, rfl, rfl, rfl, rfl, rfl, rfl, rfl, rfl, rfl, rfl, rfl, trivial⟩
abbrev full_kw_Stream___init__ : List V → Option (List V) := exact_ 3
abbrev pl_kw_Stream___init__ : List (Option Nat) := [some 0, some 1, some 2]
abbrev pc_kw_Stream___init__ : List (Option Nat) := []
theorem fo_kw_Stream___init__ {C : Ctx} {P : Params} (hK : C.K = KK P) : FnOk C 155 ["self", "stream_id", "weight"] ["self", "stream_id", "weight"] pl_kw_Stream___init__ pc_kw_Stream___init__ (tab.args 23) full_kw_Stream___init__ (quOf (KK P) 155) (scOf (KK P) 155) (cdOf (KK P) 155) (bodyOf (KK P) 155) := by
  refine fnB_of rfl ?_ (by rw [hK]; rfl) (fun fv h => ?_) (fun fv h => ?_)
  · rw [hK]
    refine ⟨_, _, _, _, _, _, _, _, _, _, _, rfl, fun s ρ args vals fa X hfa rv => ?_⟩
    obtain ⟨rfl, hl⟩ := exact_of hfa
    obtain ⟨a0, a1, a2, rfl⟩ := len3 hl
    obtain ⟨v0, t0, rfl, r0, rv⟩ := rv.cons_inv
    obtain ⟨v1, t1, rfl, r1, rv⟩ := rv.cons_inv
    obtain ⟨v2, t2, rfl, r2, rv⟩ := rv.cons_inv
    obtain rfl := rv.nil_inv
    refine ⟨[v0, v1, v2], ⟨r0, r1, r2, trivial⟩, rfl, ?_⟩
    first | exact BindsTo.of_eq rfl | exact binds_K (T := 148) X rfl rfl rfl rfl rfl
  · obtain ⟨a0, a1, a2, rfl⟩ := len3 h
    exact ⟨rfl, rfl, rfl, trivial⟩
  · obtain ⟨a0, a1, a2, rfl⟩ := len3 h
    exact trivial
def callN : Nat → CallF
  | 0 => fun _ _ _ => none
  | 1 => fun _ _ _ => none
  | m + 2 => fun g args σ => match g with
    | 0 => runF full__ahead pl__ahead pc__ahead (ev__ahead (callN m)) args σ
    | 1 => runF full_heappush pl_heappush pc_heappush (ev_heappush (callN m)) args σ
    | 2 => runF full_heappop pl_heappop pc_heappop (ev_heappop (callN m)) args σ
    | 3 => runF full_Stream___init__ pl_Stream___init__ pc_Stream___init__ (ev_Stream___init__ (callN m)) args σ
    | 4 => runF full_Stream_weight pl_Stream_weight pc_Stream_weight (ev_Stream_weight (callN m)) args σ
    | 5 => runF full_Stream_weight_set pl_Stream_weight_set pc_Stream_weight_set (ev_Stream_weight_set (callN m)) args σ
    | 6 => runF full_Stream_add_child pl_Stream_add_child pc_Stream_add_child (ev_Stream_add_child (callN m)) args σ
    | 7 => runF full_Stream_add_child_exclusive pl_Stream_add_child_exclusive pc_Stream_add_child_exclusive (ev_Stream_add_child_exclusive (callN m)) args σ
    | 8 => runF full_Stream_schedule pl_Stream_schedule pc_Stream_schedule (ev_Stream_schedule (callN m)) args σ
    | 9 => runF full_Stream___eq__ pl_Stream___eq__ pc_Stream___eq__ (ev_Stream___eq__ (callN m)) args σ
    | 10 => runF full_Stream___lt__ pl_Stream___lt__ pc_Stream___lt__ (ev_Stream___lt__ (callN m)) args σ
    | 11 => runF full_PriorityTree___init__ pl_PriorityTree___init__ pc_PriorityTree___init__ (ev_PriorityTree___init__ (callN m)) args σ
    | 12 => runF full_PriorityTree__get_or_insert_parent pl_PriorityTree__get_or_insert_parent pc_PriorityTree__get_or_insert_parent (ev_PriorityTree__get_or_insert_parent (callN m)) args σ
    | 13 => runF full_PriorityTree__exclusive_insert pl_PriorityTree__exclusive_insert pc_PriorityTree__exclusive_insert (ev_PriorityTree__exclusive_insert (callN m)) args σ
    | 14 => runF full_PriorityTree_insert_stream pl_PriorityTree_insert_stream pc_PriorityTree_insert_stream (ev_PriorityTree_insert_stream (callN m)) args σ
    | 15 => runF full_PriorityTree_block pl_PriorityTree_block pc_PriorityTree_block (ev_PriorityTree_block (callN m)) args σ
    | 16 => runF full_PriorityTree___next__ pl_PriorityTree___next__ pc_PriorityTree___next__ (ev_PriorityTree___next__ (callN m)) args σ
    | 17 => runF full_PriorityTree_next pl_PriorityTree_next pc_PriorityTree_next (ev_PriorityTree_next (callN m)) args σ
    | 18 => runF full__law_det pl__law_det pc__law_det (ev__law_det (callN m)) args σ
    | 19 => runF full__law_common pl__law_common pc__law_common (ev__law_common (callN m)) args σ
    | 20 => runF full__law_step pl__law_step pc__law_step (ev__law_step (callN m)) args σ
    | 21 => runF full__law_walk pl__law_walk pc__law_walk (ev__law_walk (callN m)) args σ
    | 23 => runF full_kw_Stream___init__ pl_kw_Stream___init__ pc_kw_Stream___init__ (ev_Stream___init__ (callN m)) args σ
    | _ => none
theorem call_ok {C : Ctx} (tk : TabOk C tab) (G : Gl C) : ∀ m, CallOk C tab (callN m) m
  | 0 => fun g args σ r h => by cases h
  | 1 => fun g args σ r h => by cases h
  | m + 2 => fun g args σ r h f ok A aok mF aux led vals rv => by
    have hc := call_ok tk G m
    unfold callN at h
    match g, h with
    | 0, h => exact fn_ok ok (fo__ahead G.K) (fun L g A ok' => sl__ahead ok' tk hc G) h aok rv
    | 1, h => exact fn_ok ok (fo_heappush G.K) (fun L g A ok' => sl_heappush ok' tk hc G) h aok rv
    | 2, h => exact fn_ok ok (fo_heappop G.K) (fun L g A ok' => sl_heappop ok' tk hc G) h aok rv
    | 3, h => exact fn_ok ok (fo_Stream___init__ G.K) (fun L g A ok' => sl_Stream___init__ ok' tk hc G) h aok rv
    | 4, h => exact fn_ok ok (fo_Stream_weight G.K) (fun L g A ok' => sl_Stream_weight ok' tk hc G) h aok rv
    | 5, h => exact fn_ok ok (fo_Stream_weight_set G.K) (fun L g A ok' => sl_Stream_weight_set ok' tk hc G) h aok rv
    | 6, h => exact fn_ok ok (fo_Stream_add_child G.K) (fun L g A ok' => sl_Stream_add_child ok' tk hc G) h aok rv
    | 7, h => exact fn_ok ok (fo_Stream_add_child_exclusive G.K) (fun L g A ok' => sl_Stream_add_child_exclusive ok' tk hc G) h aok rv
    | 8, h => exact fn_ok ok (fo_Stream_schedule G.K) (fun L g A ok' => sl_Stream_schedule ok' tk hc G) h aok rv
    | 9, h => exact fn_ok ok (fo_Stream___eq__ G.K) (fun L g A ok' => sl_Stream___eq__ ok' tk hc G) h aok rv
    | 10, h => exact fn_ok ok (fo_Stream___lt__ G.K) (fun L g A ok' => sl_Stream___lt__ ok' tk hc G) h aok rv
    | 11, h => exact fn_ok ok (fo_PriorityTree___init__ G.K) (fun L g A ok' => sl_PriorityTree___init__ ok' tk hc G) h aok rv
    | 12, h => exact fn_ok ok (fo_PriorityTree__get_or_insert_parent G.K) (fun L g A ok' => sl_PriorityTree__get_or_insert_parent ok' tk hc G) h aok rv
    | 13, h => exact fn_ok ok (fo_PriorityTree__exclusive_insert G.K) (fun L g A ok' => sl_PriorityTree__exclusive_insert ok' tk hc G) h aok rv
    | 14, h => exact fn_ok ok (fo_PriorityTree_insert_stream G.K) (fun L g A ok' => sl_PriorityTree_insert_stream ok' tk hc G) h aok rv
    | 15, h => exact fn_ok ok (fo_PriorityTree_block G.K) (fun L g A ok' => sl_PriorityTree_block ok' tk hc G) h aok rv
    | 16, h => exact fn_ok ok (fo_PriorityTree___next__ G.K) (fun L g A ok' => sl_PriorityTree___next__ ok' tk hc G) h aok rv
    | 17, h => exact fn_ok ok (fo_PriorityTree_next G.K) (fun L g A ok' => sl_PriorityTree_next ok' tk hc G) h aok rv
    | 18, h => exact fn_ok ok (fo__law_det G.K) (fun L g A ok' => sl__law_det ok' tk hc G) h aok rv
    | 19, h => exact fn_ok ok (fo__law_common G.K) (fun L g A ok' => sl__law_common ok' tk hc G) h aok rv
    | 20, h => exact fn_ok ok (fo__law_step G.K) (fun L g A ok' => sl__law_step ok' tk hc G) h aok rv
    | 21, h => exact fn_ok ok (fo__law_walk G.K) (fun L g A ok' => sl__law_walk ok' tk hc G) h aok rv
    | 22, h => cases h
    | 23, h => exact fn_ok ok (fo_kw_Stream___init__ G.K) (fun L g A ok' => sl_Stream___init__ ok' tk hc G) h aok rv
    | (n + 24), h => cases h
end L3
end Mine

end
noncomputable section
open PySem PySem.W PyProof.Rows PySem.Calls PySem.Spec PyProof.V PySem.SeqAt
set_option linter.unusedVariables false
set_option autoImplicit false
set_option Elab.async false
set_option maxRecDepth 100000
set_option maxHeartbeats 8000000
namespace Mine
namespace L3
theorem eleven {p : Nat → Prop} (h0 : p 0) (h1 : p 1) (h2 : p 2) (h3 : p 3) (h4 : p 4) (h5 : p 5) (h6 : p 6) (h7 : p 7) (h8 : p 8) (h9 : p 9) (h10 : p 10) : ∀ i, i < nmN → p i := by
  intro i hi
  have hi : i < 11 := hi
  match i, hi with
  | 0, _ => exact h0
  | 1, _ => exact h1
  | 2, _ => exact h2
  | 3, _ => exact h3
  | 4, _ => exact h4
  | 5, _ => exact h5
  | 6, _ => exact h6
  | 7, _ => exact h7
  | 8, _ => exact h8
  | 9, _ => exact h9
  | 10, _ => exact h10
theorem cls_Stream (P : Params) : ClsOk (KK P) 253 where
  get := fun x => rfl
  dict := rfl
  fld := eleven rfl rfl rfl rfl rfl rfl rfl rfl rfl rfl rfl
  over := rfl
  set := rfl
  tak := eleven rfl rfl rfl rfl rfl rfl rfl rfl rfl rfl rfl
  inst := rfl
  isin := rfl
theorem cls_Tree (P : Params) : ClsOk (KK P) 347 where
  get := fun x => rfl
  dict := rfl
  fld := eleven rfl rfl rfl rfl rfl rfl rfl rfl rfl rfl rfl
  over := rfl
  set := rfl
  tak := eleven rfl rfl rfl rfl rfl rfl rfl rfl rfl rfl rfl
  inst := rfl
  isin := rfl
theorem prop_Stream (P : Params) : PropOk (KK P) 253 (tab.addr 4) (tab.addr 5) where
  ex := ⟨_, _, rfl, rfl, rfl, rfl, rfl, rfl⟩
theorem tab_ok {C : Ctx} (hK : C.K = KK C.w.params) : TabOk C tab where
  tup := fun a vs h => by
    rw [hK]
    unfold tab at h
    dsimp only at h
    split at h <;> first
      | (cases h; done)
      | (cases h
         refine ⟨_, _, _, _, rfl, ?_, ?_⟩
         · repeat (first | exact trivial | refine ⟨rfl, ?_⟩)
         · rw [sizeLine_is]; exact Nat.le_of_ble_eq_true rfl)
  meth := fun c k g h => by
    rw [hK]
    unfold tab at h
    dsimp only at h
    split at h <;> first
      | (cases h; done)
      | (cases h; exact ⟨rfl, rfl, rfl, rfl⟩)
  cls := fun c h => by
    rw [hK]
    have h : (c == 253 || c == 347) = true := h
    rw [Bool.or_eq_true] at h
    rcases h with h | h
    · rw [beq_iff_eq] at h; subst h; exact cls_Stream _
    · rw [beq_iff_eq] at h; subst h; exact cls_Tree _
  prop := fun c g s h => by
    rw [hK]
    unfold tab at h
    dsimp only at h
    split at h <;> first
      | (cases h; done)
      | (cases h; exact ⟨prop_Stream _, rfl, rfl⟩)
end L3
end Mine

end
noncomputable section
open PySem PySem.W PyProof.Rows PySem.Calls PySem.Spec PyProof.V PySem.SeqAt
set_option linter.unusedVariables false
set_option autoImplicit false
set_option Elab.async false
set_option maxRecDepth 100000
set_option maxHeartbeats 8000000
namespace Mine
namespace L3
abbrev lvl : Nat := 30
def Runs (sa : Addr) (ns : List Int) : Prop := ∃ σ', runF full_law pl_law pc_law (ev_law sa ns (callN lvl)) [.glob sa] [] = some (.ok (.bool true) σ')
theorem gl_ok {w : World} {h : Heap} {mg mb : Str → Option Value} {p prog : Program} {loose : List Str} {mean : ExcName → Option Value} {scr : Option (Addr × List Int)} (Tp : Top p loose mean mg mb h) (KX : (KK w.params).In h) : Gl ⟨prog, w, KK w.params, mg, mb, scr⟩ where
    K := rfl
    g_PriorityTree := .inl (mg_of KX Tp.g rfl)
    g_Stream := .inl (mg_of KX Tp.g rfl)
    g__LAW_LANES := .inl (mg_of KX Tp.g rfl)
    g__LAW_MEASURES := .inl (mg_of KX Tp.g rfl)
    g__LAW_OWN := .inl (mg_of KX Tp.g rfl)
    g__ahead := .inl (mg_of KX Tp.g rfl)
    g__law_common := .inl (mg_of KX Tp.g rfl)
    g__law_det := .inl (mg_of KX Tp.g rfl)
    g__law_step := .inl (mg_of KX Tp.g rfl)
    g__law_walk := .inl (mg_of KX Tp.g rfl)
    g_bool := .inr ⟨mg_none_of KX Tp.g rfl, (Tp.builtins "bool" (by decide)).trans rfl⟩
    g_heappop := .inl (mg_of KX Tp.g rfl)
    g_heappush := .inl (mg_of KX Tp.g rfl)
    g_int := .inr ⟨mg_none_of KX Tp.g rfl, (Tp.builtins "int" (by decide)).trans rfl⟩
    g_isinstance := .inr ⟨mg_none_of KX Tp.g rfl, (Tp.builtins "isinstance" (by decide)).trans rfl⟩
    g_len := .inr ⟨mg_none_of KX Tp.g rfl, (Tp.builtins "len" (by decide)).trans rfl⟩
    g_list := .inr ⟨mg_none_of KX Tp.g rfl, (Tp.builtins "list" (by decide)).trans rfl⟩
    g_range := .inr ⟨mg_none_of KX Tp.g rfl, (Tp.builtins "range" (by decide)).trans rfl⟩
    g_sorted := .inr ⟨mg_none_of KX Tp.g rfl, (Tp.builtins "sorted" (by decide)).trans rfl⟩
    g_sum := .inr ⟨mg_none_of KX Tp.g rfl, (Tp.builtins "sum" (by decide)).trans rfl⟩
theorem head_core {w : World} {s₁ : Shared} {mg mb : Str → Option Value} {p prog : Program} {loose : List Str} {mean : ExcName → Option Value} (Tp : Top p loose mean mg mb s₁.heap) (hseer : s₁.heap.NoSeer) (KX : (KK w.params).In s₁.heap)
    {a : Addr} {its : List Value} {ns : List Int} (hL : s₁.heap.IsList a its.toArray) (hI : IntsAre its ns) (hrun : Runs a ns) {R : Result → Shared → Prop}
    (hR : ∀ L m h' tk, Fr s₁.heap L h' m → R (.ok (.ret (.bool true))) { s₁ with heap := h', toks := tk }) : codeAny (model prog w) callerA (.call (.ref 393) ⟨[.ref a], []⟩) R s₁ := by
  obtain ⟨σ', h⟩ := hrun
  have G : Gl ⟨prog, w, KK w.params, mg, mb, some (a, ns)⟩ := gl_ok Tp KX
  show codeAny (model prog w) callerA (.call (.ref 393) (tab.args 22 [.ref a])) R s₁
  refine law_top (a := a) (C := ⟨prog, w, KK w.params, mg, mb, some (a, ns)⟩) (n := lvl + 1) (fo_law rfl) KX Tp.g Tp.b Tp.nolimit ?_ ?_ (by decide) (fun L g A ok' => sl_law (sa := a) (ns := ns) rfl ok' (tab_ok rfl) (call_ok (tab_ok rfl) G lvl) G) h (show All2 (VR []) [.glob a] [.ref a] from ⟨rfl, trivial⟩) ?_
  · obtain ⟨mm, ⟨o, _, _, ho, _⟩, _⟩ := hseer.mods
    exact ⟨o, ho⟩
  · intro a' ns' e
    cases e
    exact ⟨its, hL, hI⟩
  · intro L m led' h' tk val F' r
    obtain rfl := r.bool_inv
    exact hR L m h' tk F'
end L3
end Mine

end
section
open PySem PySem.W PyProof.Rows
set_option Elab.async false
set_option maxRecDepth 100000
set_option maxHeartbeats 8000000
set_option pp.deepTerms false
set_option pp.deepTerms.threshold 6
set_option pp.maxSteps 800
theorem Mine.L3.head (hrun : ∀ sa ns, ns.length ≤ 63 → Mine.L3.Runs sa ns) : PySem.Challenge.rw_ez5009_03.Holds := Mine.hd (by
  k_fill
  intro w s₀ s₁ mg mb G Y fa o pm cd doc dV kV ho hd hcd hD hmg hg args vals as hpre hlay hrd hwl hlo
  have KX := kIn_of Y
  refine Ground.open G ?_
  intro T B D TE TW
  try (refine guard_noD D (by decide +kernel) ?_; clear D)
  clear B TE TW G Y hD hcd hd ho
  have e : mg "law" = some (.ref 393) := mg_of KX T.g rfl
  have hmg' : mg "law" = some (.ref fa) := hmg
  rw [e] at hmg'
  cases hmg'
  clear hmg e
  wrow_args hpre hlay hrd hwl hlo
  all_goals (first | refine callC_kw (enter_call ?_) | refine enter_call ?_)
  all_goals (try refine codeAny_mono ?_ (fun _ _ g => GoodW.toG g))
  all_goals (refine Mine.L3.head_core T (T.seer (by decide +kernel)) KX (by assumption) (by assumption) (hrun _ _ (by omega)) ?_)
  all_goals (intro L m h' tk F')
  all_goals (refine goodW_bool F' hg (raisesW_false ?_) ?_)
  · wrow_none_raised
  · wrow_post)

end
noncomputable section
open PySem PySem.W PyProof.Rows
set_option linter.unusedVariables false
set_option linter.unusedSimpArgs false
set_option autoImplicit false
set_option Elab.async false
set_option maxRecDepth 100000
set_option maxHeartbeats 4000000
namespace Mine
namespace L3
/-- the number of a stream -/
def IdAt (σ : St) (k : Nat) (i : Int) : Prop := ∃ d fs, σ[k]? = some (.inst 253 d) ∧ σ[d]? = some (.ns fs) ∧ fs.find? (fun p => p.1 == 0) = some (0, .int i)
/-- an item of a queue -/
def ItemAt (σ : St) (j : Nat) (l : Int) (k : Nat) : Prop := σ[j]? = some (.tup [.int l, .ref k])
theorem lt_eq (m : Nat) {σ : St} {a b : Nat} {i j : Int} (ha : IdAt σ a i) (hb : IdAt σ b j) : callN (m + 2) 10 [.ref a, .ref b] σ = some (.ok (.bool (decide (i < j))) σ) := by
  obtain ⟨d, fs, h1, h2, h3⟩ := ha
  obtain ⟨e, gs, k1, k2, k3⟩ := hb
  unfold callN
  simp only [runF, exact_, ev_Stream___lt__, consL, ifS, retS, notB, truE, biE, consS, nilS, locE, gloE, cmpE, attrE, bindS, bindE, bindR, retR, truV, isiV, attrV, cmpV, plainV, tab, List.length_cons, List.length_nil, if_true, Option.bind_some, List.map_cons, List.map_nil, List.getElem?_cons_zero, List.getElem?_cons_succ, Option.join_some, Option.map_some, h1, h2, h3, k1, k2, k3, nmN, List.append_nil]
  simp [h1, h2, h3, k1, k2, k3, nilL, attrV, isiV, cmpV, truV, bindR, bindE, plainV, nmN]
def lexB (p q : Int × Int) : Bool := if p.1 ≠ q.1 then decide (p.1 < q.1) else decide (p.2 < q.2)
theorem ahead_eq (m : Nat) {σ : St} {x y k k' : Nat} {l l' i j : Int} (hx : ItemAt σ x l k) (hy : ItemAt σ y l' k') (ha : IdAt σ k i) (hb : IdAt σ k' j) :
    callN (m + 4) 0 [.ref x, .ref y] σ = some (.ok (.bool (lexB (l, i) (l', j))) σ) := by
  have h := lt_eq m ha hb
  obtain ⟨d, fs, h1, h2, h3⟩ := ha
  obtain ⟨e, gs, k1, k2, k3⟩ := hb
  unfold ItemAt at hx hy
  unfold callN
  simp only [runF, exact_, ev__ahead, List.length_cons, List.length_nil, if_true, Option.bind_some, List.map_cons, List.map_nil]
  by_cases hl : l = l'
  · subst hl
    simp [consL, ifS, retS, truE, subE, locE, intE, cmpE, bindS, bindE, bindR, retR, truV, cmpV, getV, idx, nilL, hx, hy, h1, h2, k1, k2, tab, h, lexB]
  · simp [consL, ifS, retS, truE, subE, locE, intE, cmpE, bindS, bindE, bindR, retR, truV, cmpV, getV, idx, nilL, hx, hy, hl, lexB]
end L3
end Mine

end
noncomputable section
open PySem PySem.W PyProof.Rows
set_option linter.unusedVariables false
set_option linter.unusedSimpArgs false
set_option autoImplicit false
set_option Elab.async false
set_option maxRecDepth 100000
set_option maxHeartbeats 4000000
namespace Mine
namespace L3
/-- a queue's items, with their keys -/
def QAt (σ : St) : List V → List (Int × Int) → Prop := All2 fun v p => ∃ x k, v = .ref x ∧ ItemAt σ x p.1 k ∧ IdAt σ k p.2
/-- where an item goes: behind the last one that is not behind it -/
def place (it : Int × Int) (ks : List (Int × Int)) : Nat → Nat
  | 0 => 0
  | n + 1 => if lexB it (ks.getD n (0, 0)) then place it ks n else n + 1
theorem whileL_some {c : EFb} {b : SF} {k : Nat} {le : Le} {σ : St} (hk : 0 < k) : whileL c b k le σ = bindE le.lo (c le σ) fun t σ1 => if t then (match b le σ1 with
      | some (.ok .next lo σ2) => whileL c b (k - 1) ⟨lo, le.cl⟩ σ2
      | some (.ok .cont lo σ2) => whileL c b (k - 1) ⟨lo, le.cl⟩ σ2
      | some (.ok .brk lo σ2) => some (.ok .next lo σ2)
      | r => r) else some (.ok .next le.lo σ1) := by
  cases k with
  | zero => cases hk
  | succ k => rfl
theorem push_loop (m : Nat) {σ : St} {q it k : Nat} {l i : Int} {vs : List V} {ks : List (Int × Int)} (hq : σ[q]? = some (.list vs)) (hQ : QAt σ vs ks) (hi : ItemAt σ it l k) (hid : IdAt σ k i) : ∀ (n fu : Nat), n < fu → n ≤ vs.length →
    whileL (andB (truE (cmpE T (callN (m + 4)) .gt (locE 2) (intE 0))) (andB (truE (callE (callN (m + 4)) 0 (consS (locE 1) (consS (subE T (locE 0) (binE .sub (locE 2) (intE 1))) nilS)))) ttB)) (consL (augL .sub 2 (intE 1)) nilL) fu
      ⟨[some (.ref q), some (.ref it), some (.int n)], []⟩ σ = some (.ok .next [some (.ref q), some (.ref it), some (.int (place (l, i) ks n))] σ)
  | 0, fu, hf, _ => by
    rw [whileL_some (by omega)]
    simp [andB, truE, cmpE, locE, intE, bindR, bindE, cmpV, truV, place]
  | n + 1, fu, hf, hn => by
    have ih := push_loop m hq hQ hi hid n (fu - 1) (by omega) (by omega)
    obtain ⟨v, hv⟩ : ∃ v, vs[n]? = some v := ⟨vs[n], List.getElem?_eq_getElem (by omega)⟩
    obtain ⟨p, hp, x, k', rfl, h1, h2⟩ := hQ.get hv
    have ha := ahead_eq m hi h1 hid h2
    have hg : ks.getD n (0, 0) = p := by rw [List.getD_eq_getElem?_getD, hp]; rfl
    have e1 : ((n + 1 : Nat) : Int) - 1 = n := by omega
    have hidx : idx vs.length ((n : Nat) : Int) = some n := by
      unfold idx; rw [if_pos (by omega), if_pos (by omega)]; simp
    have hpos : decide ((((n + 1 : Nat) : Int)) > 0) = true := decide_eq_true (by omega)
    rw [whileL_some (by omega)]
    unfold place
    rw [hg]
    cases hb : lexB (l, i) p with
    | true =>
      rw [hb] at ha
      simp only [andB, truE, cmpE, locE, intE, callE, consS, nilS, subE, binE, binV, bindR, bindE, cmpV, truV, ttB, getV, List.getElem?_cons_zero, List.getElem?_cons_succ, Option.join_some, Option.map_some, hpos, hq, hidx, hv, Option.bind_some, ha, if_true, consL, augL, bindS, inpV, setLo, nilL, List.set_cons_succ, List.set_cons_zero, e1]
      exact ih
    | false =>
      rw [hb] at ha
      simp only [andB, truE, cmpE, locE, intE, callE, consS, nilS, subE, binE, binV, bindR, bindE, cmpV, truV, ttB, getV, List.getElem?_cons_zero, List.getElem?_cons_succ, Option.join_some, Option.map_some, hpos, hq, e1, hidx, hv, Option.bind_some, ha, if_true]
      simp
end L3
end Mine

end
noncomputable section
open PySem PySem.W PyProof.Rows
set_option linter.unusedVariables false
set_option linter.unusedSimpArgs false
set_option autoImplicit false
set_option Elab.async false
set_option maxRecDepth 100000
set_option maxHeartbeats 4000000
namespace Mine
namespace L3
theorem place_le (it : Int × Int) (ks : List (Int × Int)) : ∀ n, place it ks n ≤ n
  | 0 => Nat.le_refl _
  | n + 1 => by
    unfold place
    split
    · exact Nat.le_succ_of_le (place_le it ks n)
    · exact Nat.le_refl _
theorem push_eq (m : Nat) {σ : St} {q it k : Nat} {l i : Int} {vs : List V} {ks : List (Int × Int)} (hq : σ[q]? = some (.list vs)) (hQ : QAt σ vs ks) (hi : ItemAt σ it l k) (hid : IdAt σ k i) (hz : vs.length < 99999) :
    callN (m + 6) 1 [.ref q, .ref it] σ = some (.ok .none (σ.set q (.list (vs.take (place (l, i) ks vs.length) ++ .ref it :: vs.drop (place (l, i) ks vs.length))))) := by
  have hl := push_loop m hq hQ hi hid vs.length fuel (by show _ < 100000; omega) (Nat.le_refl _)
  have hp := place_le (l, i) ks vs.length
  have hp' : ((place (l, i) ks vs.length : Nat) : Int) ≤ vs.length := by omega
  have hz' : vs.length < 16777216 := by omega
  unfold callN
  simp only [runF, exact_, ev_heappush, List.length_cons, List.length_nil, if_true, Option.bind_some, List.map_cons, List.map_nil, List.getElem?_cons_zero, List.getElem?_cons_succ, consL, asgL, biE, consS, nilS, locE, bindR, bindE, bindS, lenV, hq, Option.join_some, Option.map_some, setLo, List.set_cons_succ, List.set_cons_zero, List.append_nil, Option.bind_none]
  rw [show (List.map (fun x => σ.length + x) (List.range 0)) = ([] : List Nat) from rfl]
  rw [hl]
  simp [exprS, lmE, listAtV, consS, nilS, locE, bindR, bindE, bindS, insV, hq, retR, nilL, hp', hz']
end L3
end Mine

end
noncomputable section
open PySem PySem.W PyProof.Rows
set_option linter.unusedVariables false
set_option linter.unusedSimpArgs false
set_option autoImplicit false
set_option Elab.async false
set_option maxRecDepth 100000
set_option maxHeartbeats 4000000
namespace Mine
namespace L3
/-- a stream's fields -/
structure Fld where
  id : Int
  w : Int
  cl : Nat
  par : V
  q : Nat
  act : Bool
  lw : Int
  df : Int
def Fld.ns (f : Fld) : O := .ns [(0, .int f.id), (1, .int f.w), (2, .ref f.cl), (3, f.par), (4, .ref f.q), (5, .bool f.act), (6, .int f.lw), (7, .int f.df)]
def StAt (σ : St) (k d : Nat) (f : Fld) : Prop := σ[k]? = some (.inst 253 d) ∧ σ[d]? = some f.ns
theorem StAt.idAt {σ : St} {k d : Nat} {f : Fld} (h : StAt σ k d f) : IdAt σ k f.id := ⟨d, _, h.1, h.2, rfl⟩
theorem weight_eq (m : Nat) {σ : St} {k d : Nat} {f : Fld} (h : StAt σ k d f) : callN (m + 2) 4 [.ref k] σ = some (.ok (.int f.w) σ) := by
  obtain ⟨h1, h2⟩ := h
  unfold callN
  simp [runF, exact_, ev_Stream_weight, consL, retS, attrE, locE, bindR, bindE, bindS, retR, attrV, tab, h1, h2, Fld.ns, nmN, plainV, nilL]
end L3
end Mine

end
noncomputable section
open PySem PySem.W PyProof.Rows
set_option linter.unusedVariables false
set_option linter.unusedSimpArgs false
set_option autoImplicit false
set_option Elab.async false
set_option maxRecDepth 100000
set_option maxHeartbeats 4000000
namespace Mine
namespace L3
theorem setw_eq (m : Nat) {σ : St} {k d : Nat} {fs : List (Nat × V)} {w : Int} (h1 : σ[k]? = some (.inst 253 d)) (h2 : σ[d]? = some (.ns fs)) (hw : 1 ≤ w ∧ w ≤ 256) (hf : fs.length < 500) :
    callN (m + 4) 5 [.ref k, .int w] σ = some (.ok .none (σ.set d (.ns (putF 1 (.int w) fs)))) := by
  unfold callN
  simp [runF, exact_, ev_Stream_weight_set, consL, ifS, notB, truE, biE, consS, nilS, locE, gloE, isiV, chainB, intE, cmpV, asgA, setAttrV, bindR, bindE, bindS, retR, truV, tab, h1, h2, nmN, nilL, hw, hf]
end L3
end Mine

end
noncomputable section
open PySem PySem.W PyProof.Rows
set_option linter.unusedVariables false
set_option linter.unusedSimpArgs false
set_option autoImplicit false
set_option Elab.async false
set_option maxRecDepth 100000
set_option maxHeartbeats 4000000
namespace Mine
namespace L3
section
variable {P : Fl → List (Option V) → St → Prop} {le : Le} {σ : St} {b : SF} {i : Nat} {e o : EF} {call : CallF}
theorem WS.asgA (h : WR (e le σ) fun v σ1 => ∃ k d fs σ2, o le σ1 = some (.ok (.ref k) σ2) ∧ σ2[k]? = some (.inst 253 d) ∧ σ2[d]? = some (.ns fs) ∧ fs.length < 500 ∧ WS (b ⟨le.lo, le.cl⟩ (σ2.set d (.ns (putF i v fs)))) P) (hi : i < nmN := by decide) : WS (consL (Mine.asgA T i o e) b le σ) P := by
  obtain ⟨v, σ1, e1, k, d, fs, σ2, e2, h1, h2, h3, q⟩ := h
  unfold consL Mine.asgA
  rw [e1]; simp only [bindE]; rw [e2]
  simp only [bindE, setAttrV, h1, h2, tab, hi, h3, true_and, if_true, bindS, beq_self_eq_true, Bool.true_or]
  exact q
theorem WS.asgA2 (h : WR (e le σ) fun v σ1 => ∃ k d fs σ2, o le σ1 = some (.ok (.ref k) σ2) ∧ σ2[k]? = some (.inst 347 d) ∧ σ2[d]? = some (.ns fs) ∧ fs.length < 500 ∧ WS (b ⟨le.lo, le.cl⟩ (σ2.set d (.ns (putF i v fs)))) P) (hi : i < nmN := by decide) : WS (consL (Mine.asgA T i o e) b le σ) P := by
  obtain ⟨v, σ1, e1, k, d, fs, σ2, e2, h1, h2, h3, q⟩ := h
  unfold consL Mine.asgA
  rw [e1]; simp only [bindE]; rw [e2]
  simp only [bindE, setAttrV, h1, h2, tab, hi, h3, true_and, if_true, bindS, beq_self_eq_true, Bool.or_true]
  exact q
end
theorem init_body (m : Nat) {σ : St} {k d : Nat} {i w : Int} (h1 : σ[k]? = some (.inst 253 d)) (h2 : σ[d]? = some (.ns [])) (hw : 1 ≤ w ∧ w ≤ 256) {P : Fl → List (Option V) → St → Prop}
    (hP : ∀ lo σ', Keep (· = d) σ σ' → σ'.length = σ.length + 2 → StAt σ' k d ⟨i, w, σ.length, .none, σ.length + 1, true, 0, 0⟩ → σ'[σ.length]? = some (.list []) → σ'[σ.length + 1]? = some (.list []) → P .next lo σ') :
    WS (ev_Stream___init__ (callN (m + 4)) ⟨[some (.ref k), some (.int i), some (.int w)], []⟩ σ) P := by
  have hl := lt_of_get h1
  have hd := lt_of_get h2
  have hkd : d ≠ k := by rintro rfl; rw [h1] at h2; cases h2
  unfold ev_Stream___init__
  refine WS.asgA ⟨_, _, rfl, k, d, _, σ, rfl, h1, h2, by decide, ?_⟩
  have a1 := get_set_ne (o' := .ns (putF 0 (.int i) [])) hkd h1
  have a2 := get_set (o' := .ns (putF 0 (.int i) [])) h2
  refine WS.cons (R := fun lo σ1 => lo = [some (.ref k), some (.int i), some (.int w)] ∧ σ1 = (σ.set d (.ns (putF 0 (.int i) []))).set d (.ns (putF 1 (.int w) (putF 0 (.int i) [])))) ?_ ?_
  · have := setw_eq m a1 a2 hw (by simp [putF])
    unfold asgP
    simp only [locE, List.getElem?_cons_zero, List.getElem?_cons_succ, Option.join_some, Option.map_some, bindE, setPropV, a1, a2, tab, this, bindR]
    exact ⟨_, _, _, rfl, rfl, rfl, rfl⟩
  rintro lo σ1 ⟨rfl, rfl⟩
  rw [List.set_set]
  refine WS.asgA ⟨_, _, rfl, k, d, _, _, rfl, get_app (get_set_ne hkd h1), get_app (get_set h2), by simp [putF], ?_⟩
  rw [List.set_append_left (h := by simpa using hd), List.set_set]
  refine WS.asgA ⟨_, _, rfl, k, d, _, _, rfl, get_app (get_set_ne hkd h1), get_app (get_set h2), by simp [putF], ?_⟩
  rw [List.set_append_left (h := by simpa using hd), List.set_set]
  refine WS.asgA ⟨_, _, rfl, k, d, _, _, rfl, get_app (get_app (get_set_ne hkd h1)), get_app (get_app (get_set h2)), by simp [putF], ?_⟩
  rw [List.append_assoc, List.set_append_left (h := by simpa using hd), List.set_set]
  refine WS.asgA ⟨_, _, rfl, k, d, _, _, rfl, get_app (get_set_ne hkd h1), get_app (get_set h2), by simp [putF], ?_⟩
  rw [List.set_append_left (h := by simpa using hd), List.set_set]
  refine WS.asgA ⟨_, _, rfl, k, d, _, _, rfl, get_app (get_set_ne hkd h1), get_app (get_set h2), by simp [putF], ?_⟩
  rw [List.set_append_left (h := by simpa using hd), List.set_set]
  refine WS.asgA ⟨_, _, rfl, k, d, _, _, rfl, get_app (get_set_ne hkd h1), get_app (get_set h2), by simp [putF], ?_⟩
  rw [List.set_append_left (h := by simpa using hd), List.set_set]
  refine WS.nil.2 ?_
  simp only [List.length_set, List.length_append, List.length_cons, List.length_nil]
  refine hP _ _ ?_ ?_ ⟨get_app (get_set_ne hkd h1), get_app (get_set h2)⟩ ?_ ?_
  · exact (Keep.set (S := (· = d)) (i := d) h2 rfl rfl).trans (Keep.app _ _ _) (fun _ _ h => h)
  · simp
  · simp [List.getElem?_append_right]
  · simp [List.getElem?_append_right]
theorem init_ok (m : Nat) {σ : St} {k d : Nat} {i w : Int} (h1 : σ[k]? = some (.inst 253 d)) (h2 : σ[d]? = some (.ns [])) (hw : 1 ≤ w ∧ w ≤ 256) (g : Nat) (hg : g = 3 ∨ g = 23) :
    WR (callN (m + 6) g [.ref k, .int i, .int w] σ) fun v σ' => v = .none ∧ Keep (· = d) σ σ' ∧ σ'.length = σ.length + 2 ∧ StAt σ' k d ⟨i, w, σ.length, .none, σ.length + 1, true, 0, 0⟩ ∧ σ'[σ.length]? = some (.list []) ∧ σ'[σ.length + 1]? = some (.list []) := by
  rcases hg with rfl | rfl
  · show WR (runF full_Stream___init__ _ _ _ _ _) _
    refine WR.runF rfl ?_
    refine init_body m (d := d) ?_ ?_ hw ?_
    · simpa using h1
    · simpa using h2
    · intro lo σ' h3 h4 h5 h6 h7
      simp only [List.map_nil, List.append_nil] at h3 h4 h5 h6 h7
      exact ⟨rfl, h3, h4, h5, h6, h7⟩
  · show WR (runF full_kw_Stream___init__ _ _ _ _ _) _
    refine WR.runF rfl ?_
    refine init_body m (d := d) ?_ ?_ hw ?_
    · simpa using h1
    · simpa using h2
    · intro lo σ' h3 h4 h5 h6 h7
      simp only [List.map_nil, List.append_nil] at h3 h4 h5 h6 h7
      exact ⟨rfl, h3, h4, h5, h6, h7⟩
end L3
end Mine

end
noncomputable section
open PySem PySem.W PyProof.Rows
set_option linter.unusedVariables false
set_option linter.unusedSimpArgs false
set_option autoImplicit false
set_option Elab.async false
set_option maxRecDepth 100000
set_option maxHeartbeats 4000000
namespace Mine
namespace L3
/-- a tree's places -/
structure TA where
  a : Nat
  b : Nat
  r : Nat
  d : Nat
  dd : Nat
  q : Nat
  cl : Nat
structure Kid where
  k : Nat
  d : Nat
  cl : Nat
  q : Nat
  id : Int
  w : Int
  df : Int
abbrev Item := Int × Kid
def Kid.fld (t : TA) (x : Kid) : Fld := ⟨x.id, x.w, x.cl, .ref t.r, x.q, true, 0, x.df⟩
def TA.fld (t : TA) (lw : Int) : Fld := ⟨0, 1, t.cl, .none, t.q, false, lw, 0⟩
def key (p : Item) : Int × Int := (p.1, p.2.id)
def ins (it : Item) (its : List Item) : List Item := its.take (place (key it) (its.map key) its.length) ++ it :: its.drop (place (key it) (its.map key) its.length)
def ItK (σ : St) (t : TA) (v : V) (p : Item) : Prop := ∃ x, v = .ref x ∧ σ[x]? = some (.tup [.int p.1, .ref p.2.k]) ∧ StAt σ p.2.k p.2.d (p.2.fld t)
def fp (t : TA) (its : List Item) : List Nat := t.b :: t.d :: t.dd :: t.q :: t.cl :: its.map (·.2.d)
structure Flat (σ : St) (t : TA) (lw : Int) (its : List Item) (kvs : List (Int × V)) : Prop where
  hT : σ[t.a]? = some (.inst 347 t.b)
  hB : σ[t.b]? = some (.ns [(8, .ref t.r), (9, .ref t.dd), (10, .int 1000)])
  hR : StAt σ t.r t.d (t.fld lw)
  hD : σ[t.dd]? = some (.dict kvs none)
  hC : ∃ vs, σ[t.cl]? = some (.list vs) ∧ vs.length = its.length
  hQ : ∃ vs, σ[t.q]? = some (.list vs) ∧ All2 (ItK σ t) vs its
  nd : (fp t its).Nodup
theorem attr_st {σ : St} {k d : Nat} {f : Fld} (h : StAt σ k d f) (i : Nat) {j : Nat} {v : V} (hv : ([(0, .int f.id), (1, .int f.w), (2, .ref f.cl), (3, f.par), (4, .ref f.q), (5, .bool f.act), (6, .int f.lw), (7, .int f.df)] : List (Nat × V)).find? (fun p => p.1 == i) = some (j, v)) (hp : plainV v = true) (hi : i < nmN := by decide) : attrV T i (.ref k) σ = some (.ok v σ) := by
  obtain ⟨h1, h2⟩ := h
  unfold Fld.ns at h2
  simp only [attrV, h1, h2, hv, hp, hi, tab, beq_self_eq_true, Bool.true_or, if_true, Option.bind_some]
theorem ItK.q {σ : St} {t : TA} {vs : List V} {its : List Item} (h : All2 (ItK σ t) vs its) : QAt σ vs (its.map key) :=
  All2.mapR key (fun v p ⟨x, e, h1, h2⟩ => ⟨x, p.2.k, e, h1, h2.idAt⟩) h
theorem StAt.keep {S : Nat → Prop} {σ σ' : St} {k d : Nat} {f : Fld} (h : StAt σ k d f) (K : Keep S σ σ') (hd : ¬ S d) : StAt σ' k d f := ⟨K.at_ _ _ h.1 (.inl rfl), K.at_ _ _ h.2 (.inr hd)⟩
theorem ItK.keep {S : Nat → Prop} {σ σ' : St} {t : TA} {v : V} {p : Item} (h : ItK σ t v p) (K : Keep S σ σ') (hd : ¬ S p.2.d) : ItK σ' t v p := by
  obtain ⟨x, e, h1, h2⟩ := h
  exact ⟨x, e, K.at_ _ _ h1 (.inl rfl), h2.keep K hd⟩
/-- what others do leaves a tree as it is -/
theorem Flat.keep {S : Nat → Prop} {σ σ' : St} {t : TA} {lw : Int} {its : List Item} {kvs : List (Int × V)} (h : Flat σ t lw its kvs) (K : Keep S σ σ') (hd : ∀ i ∈ fp t its, ¬ S i) : Flat σ' t lw its kvs := by
  obtain ⟨h1, h2, h3, h4, ⟨cs, h5, h6⟩, ⟨vs, h7, h8⟩, h9⟩ := h
  simp only [fp, List.forall_mem_cons] at hd
  obtain ⟨d1, d2, d3, d4, d5, d6⟩ := hd
  exact ⟨K.at_ _ _ h1 (.inl rfl), K.at_ _ _ h2 (.inr d1), h3.keep K d2, K.at_ _ _ h4 (.inr d3), ⟨cs, K.at_ _ _ h5 (.inr d5), h6⟩, ⟨vs, K.at_ _ _ h7 (.inr d4), h8.impM fun a b m r => r.keep K (d6 _ (List.mem_map_of_mem m))⟩, h9⟩
theorem Flat.lt {σ : St} {t : TA} {lw : Int} {its : List Item} {kvs : List (Int × V)} (h : Flat σ t lw its kvs) : ∀ i ∈ fp t its, i < σ.length := by
  obtain ⟨h1, h2, h3, h4, ⟨cs, h5, h6⟩, ⟨vs, h7, h8⟩, h9⟩ := h
  simp only [fp, List.forall_mem_cons]
  refine ⟨lt_of_get h2, lt_of_get h3.2, lt_of_get h4, lt_of_get h7, lt_of_get h5, ?_⟩
  intro i hi
  obtain ⟨p, hp, rfl⟩ := List.mem_map.1 hi
  obtain ⟨j, hj⟩ := List.mem_iff_getElem?.1 hp
  obtain ⟨v, _, x, _, _, h10⟩ := h8.get' hj
  exact lt_of_get h10.2
theorem Flat.mut {σ : St} {t : TA} {lw : Int} {its : List Item} {kvs : List (Int × V)} (h : Flat σ t lw its kvs) : ∀ i ∈ fp t its, ∀ o, σ[i]? = some o → o.fixed = false := by
  obtain ⟨h1, h2, h3, h4, ⟨cs, h5, h6⟩, ⟨vs, h7, h8⟩, h9⟩ := h
  simp only [fp, List.forall_mem_cons]
  refine ⟨?_, ?_, ?_, ?_, ?_, ?_⟩
  · intro o e; rw [h2] at e; cases e; rfl
  · intro o e; rw [h3.2] at e; cases e; rfl
  · intro o e; rw [h4] at e; cases e; rfl
  · intro o e; rw [h7] at e; cases e; rfl
  · intro o e; rw [h5] at e; cases e; rfl
  intro i hi o e
  obtain ⟨p, hp, rfl⟩ := List.mem_map.1 hi
  obtain ⟨j, hj⟩ := List.mem_iff_getElem?.1 hp
  obtain ⟨v, _, x, _, _, h10⟩ := h8.get' hj
  rw [h10.2] at e; cases e; rfl
theorem pop_eq (m : Nat) {σ : St} {q : Nat} {v : V} {vs : List V} (h : σ[q]? = some (.list (v :: vs))) : callN (m + 2) 2 [.ref q] σ = some (.ok v (σ.set q (.list vs))) := by
  unfold callN
  simp [runF, exact_, ev_heappop, consL, retS, lmE, listAtV, popV, consS, nilS, locE, intE, bindR, bindE, bindS, retR, h, idx]
theorem ins_mem {it : Item} {its : List Item} : ∀ p, p ∈ ins it its ↔ p = it ∨ p ∈ its := by
  intro p
  have h : p ∈ its ↔ p ∈ its.take (place (key it) (its.map key) its.length) ∨ p ∈ its.drop (place (key it) (its.map key) its.length) := by
    rw [← List.mem_append, List.take_append_drop]
  simp only [ins, List.mem_append, List.mem_cons, h]
  constructor
  · rintro (h | h | h)
    · exact .inr (.inl h)
    · exact .inl h
    · exact .inr (.inr h)
  · rintro (h | h | h)
    · exact .inr (.inl h)
    · exact .inl h
    · exact .inr (.inr h)
theorem ins_perm (it : Item) (its : List Item) : (ins it its).Perm (it :: its) := by
  unfold ins
  refine List.perm_middle.trans ?_
  rw [List.take_append_drop]
theorem ins_all2 {σ : St} {t : TA} {vs : List V} {its : List Item} {v : V} {it : Item} (h : All2 (ItK σ t) vs its) (hv : ItK σ t v it) :
    All2 (ItK σ t) (vs.take (place (key it) (its.map key) vs.length) ++ v :: vs.drop (place (key it) (its.map key) vs.length)) (ins it its) := by
  unfold ins
  rw [h.length]
  exact (h.take _).append ⟨hv, h.drop _⟩
end L3
end Mine

end
noncomputable section
open PySem PySem.W PyProof.Rows
set_option linter.unusedVariables false
set_option linter.unusedSimpArgs false
set_option autoImplicit false
set_option Elab.async false
set_option maxRecDepth 100000
set_option maxHeartbeats 4000000
namespace Mine
namespace L3
/-- a queue's push, told by its relation -/
theorem push_ok (m : Nat) {σ : St} {t : TA} {vs : List V} {its : List Item} {x : Nat} {l : Int} {v : Kid} {q : Nat} (hq : σ[q]? = some (.list vs)) (hQ : All2 (ItK σ t) vs its) (hx : ItK σ t (.ref x) (l, v)) (hz : vs.length < 99999) :
    ∃ us, callN (m + 6) 1 [.ref q, .ref x] σ = some (.ok .none (σ.set q (.list us))) ∧ All2 (ItK σ t) us (ins (l, v) its) ∧ us.length = vs.length + 1 := by
  obtain ⟨x', e, h1, h2⟩ := hx
  cases e
  refine ⟨_, push_eq m hq (ItK.q hQ) h1 h2.idAt hz, ins_all2 (it := (l, v)) hQ ⟨x, rfl, h1, h2⟩, ?_⟩
  have := place_le (key (l, v)) (its.map key) vs.length
  simp only [List.length_append, List.length_cons, List.length_take, List.length_drop]
  have h3 : place (l, (v.fld t).id) (its.map key) vs.length ≤ vs.length := this
  omega
theorem callN_6 (m : Nat) (args : List V) (σ : St) : callN (m + 2) 6 args σ = runF full_Stream_add_child pl_Stream_add_child pc_Stream_add_child (ev_Stream_add_child (callN m)) args σ := rfl
theorem add_ok (m : Nat) {σ : St} {t : TA} {lw : Int} {its : List Item} {kvs : List (Int × V)} (h : Flat σ t lw its kvs) (x : Kid) (hx : StAt σ x.k x.d { x.fld t with par := .none }) (hd : x.d ∉ fp t its) (hz : its.length < 900) :
    WR (callN (m + 10) 6 [.ref t.r, .ref x.k] σ) fun v σ' => v = .none ∧ Flat σ' t lw (ins (lw, x) its) kvs ∧ Keep (· ∈ x.d :: fp t its) σ σ' := by
  rw [callN_6 (m + 8)]
  refine WR.runF' (lo := [some (.ref t.r), some (.ref x.k)]) (cl := []) (σ' := σ) rfl rfl rfl (List.append_nil _) ?_
  unfold ev_Stream_add_child
  refine WS.asgA ⟨_, _, rfl, x.k, x.d, _, σ, rfl, hx.1, hx.2, by simp, ?_⟩
  have e1 : (O.ns (putF 3 (.ref t.r) [(0, V.int x.id), (1, .int x.w), (2, .ref x.cl), (3, .none), (4, .ref x.q), (5, .bool true), (6, .int 0), (7, .int x.df)])) = (x.fld t).ns := rfl
  have K1 : Keep (· = x.d) σ (σ.set x.d (x.fld t).ns) := Keep.set (S := (· = x.d)) hx.2 rfl rfl
  have h1 := h.keep K1 (fun i hi e => hd (e ▸ hi))
  have s1 : StAt (σ.set x.d (x.fld t).ns) x.k x.d (x.fld t) := ⟨K1.at_ _ _ hx.1 (.inl rfl), get_set hx.2⟩
  show WS (consL _ _ _ (σ.set x.d (x.fld t).ns)) _
  generalize σ.set x.d (x.fld t).ns = σ1 at *
  obtain ⟨cs, c1, c2⟩ := h1.hC
  refine WS.exprS ?_
  have a2 := attr_st h1.hR 2 rfl rfl
  have a4 : ∀ σ', Keep (· = t.cl) σ1 σ' → attrV T 4 (.ref t.r) σ' = some (.ok (.ref t.q) σ') := fun σ' K => attr_st (h1.hR.keep K (by
    have := h1.nd; simp only [fp, List.nodup_cons, List.mem_cons, not_or] at this; exact this.2.1.2.2.1)) 4 rfl rfl
  have a6 : ∀ σ', Keep (· = t.cl) σ1 σ' → attrV T 6 (.ref t.r) σ' = some (.ok (.int lw) σ') := fun σ' K => attr_st (h1.hR.keep K (by
    have := h1.nd; simp only [fp, List.nodup_cons, List.mem_cons, not_or] at this; exact this.2.1.2.2.1)) 6 rfl rfl
  simp only [lmE, attrE, locE, List.getElem?_cons_zero, List.getElem?_cons_succ, Option.join_some, Option.map_some, bindR, a2, TA.fld, listAtV, c1, if_true, consS, nilS, appV, show cs.length < 16777216 by omega, WR.ok]
  have K2 : Keep (· = t.cl) σ1 (σ1.set t.cl (.list (cs ++ [.ref x.k]))) := Keep.set (S := (· = t.cl)) c1 rfl rfl
  have d2 := get_set (o' := .list (cs ++ [.ref x.k])) c1
  generalize (σ1.set t.cl (.list (cs ++ [.ref x.k]))) = σ2 at *
  refine WS.exprS ?_
  have b4 := a4 _ K2
  have b6 := a6 _ K2
  simp only [callE, consS, nilS, tupE, attrE, locE, List.getElem?_cons_zero, List.getElem?_cons_succ, Option.join_some, Option.map_some, bindR, b4, b6]
  have K3 : Keep (· = t.cl) σ1 (σ2 ++ [.tup [.int lw, .ref x.k]]) := K2.trans (Keep.app (· = t.cl) _ _) (fun _ _ h => h)
  have d3 : (σ2 ++ [O.tup [.int lw, .ref x.k]])[t.cl]? = some (.list (cs ++ [.ref x.k])) := get_app d2
  have i3 : (σ2 ++ [O.tup [.int lw, .ref x.k]])[σ2.length]? = some (.tup [.int lw, .ref x.k]) := by simp
  simp only [List.length_cons, List.length_nil, Nat.reduceLeDiff, if_true]
  generalize hn : σ2.length = n at *
  generalize (σ2 ++ [O.tup [.int lw, .ref x.k]]) = σ3 at *
  have nd := h1.nd
  obtain ⟨g1, g2, g3, g4, -, ⟨vs, g7, g8⟩, -⟩ := h1
  have nd' := nd
  simp only [fp, List.nodup_cons, List.mem_cons, not_or, List.mem_map, not_exists, not_and] at nd'
  have xcl : x.d ≠ t.cl := fun e => hd (by rw [e]; simp [fp])
  have xq : x.d ≠ t.q := fun e => hd (by rw [e]; simp [fp])
  have s3 : StAt σ3 x.k x.d (x.fld t) := s1.keep K3 xcl
  have q3 : σ3[t.q]? = some (.list vs) := K3.at_ _ _ g7 (.inr nd'.2.2.2.1.1)
  have r3 : All2 (ItK σ3 t) vs its := g8.impM fun a b mm r => r.keep K3 (nd'.2.2.2.2.1 _ mm)
  obtain ⟨us, hp, hu, hl⟩ := push_ok (m + 2) q3 r3 (x := n) (l := lw) (v := x) ⟨n, rfl, i3, s3⟩ (by rw [g8.length]; omega)
  refine WR.of_eq hp ?_
  refine WS.nil.2 ?_
  have K4 : Keep (· = t.q) σ3 (σ3.set t.q (.list us)) := Keep.set (S := (· = t.q)) q3 rfl rfl
  refine ⟨by trivial, ⟨?_, ?_, ?_, ?_, ?_, ?_, ?_⟩, ?_⟩
  · exact K4.at_ _ _ (K3.at_ _ _ g1 (.inl rfl)) (.inl rfl)
  · exact K4.at_ _ _ (K3.at_ _ _ g2 (.inr nd'.1.2.2.2.1)) (.inr nd'.1.2.2.1)
  · exact (g3.keep K3 nd'.2.1.2.2.1).keep K4 nd'.2.1.2.1
  · exact K4.at_ _ _ (K3.at_ _ _ g4 (.inr nd'.2.2.1.2.1)) (.inr nd'.2.2.1.1)
  · refine ⟨_, K4.at_ _ _ d3 (.inr (Ne.symm nd'.2.2.2.1.1)), ?_⟩
    rw [(ins_perm _ _).length_eq, List.length_append, c2]
    rfl
  · refine ⟨us, get_set q3, hu.impM fun a b mm r => r.keep K4 ?_⟩
    rcases (ins_mem b).1 mm with rfl | mm
    · exact xq
    · exact fun e => nd'.2.2.2.1.2 _ mm e
  · have : (fp t (ins (lw, x) its)).Perm (x.d :: fp t its) := by
      have p1 := ((ins_perm (lw, x) its).map (fun p : Item => p.2.d))
      simp only [fp]
      refine ((((((p1.cons t.cl).cons t.q).cons t.dd).cons t.d).cons t.b)).trans ?_
      simp only [List.map_cons]
      exact (List.perm_middle (l₁ := [t.b, t.d, t.dd, t.q, t.cl]) (l₂ := its.map (·.2.d)) (a := x.d))
    exact this.nodup_iff.2 (List.nodup_cons.2 ⟨hd, nd⟩)
  · refine ((K1.weak ?_).trans (K3.weak (S' := (· ∈ x.d :: fp t its)) ?_) (fun _ _ h => h)).trans (K4.weak (S' := (· ∈ x.d :: fp t its)) ?_) (fun _ _ h => h)
    · rintro i rfl; simp
    · rintro i rfl; simp [fp]
    · rintro i rfl; simp [fp]
end L3
end Mine

end
noncomputable section
open PySem PySem.W PyProof.Rows
set_option linter.unusedVariables false
set_option linter.unusedSimpArgs false
set_option autoImplicit false
set_option Elab.async false
set_option maxRecDepth 100000
set_option maxHeartbeats 1000000
namespace Mine
namespace L3
theorem callN_8 (m : Nat) (args : List V) (σ : St) : callN (m + 2) 8 args σ = runF full_Stream_schedule pl_Stream_schedule pc_Stream_schedule (ev_Stream_schedule (callN m)) args σ := rfl
theorem T_cls : T.isCls 253 = true := rfl
theorem T_cls2 : T.isCls 347 = true := rfl
theorem T_prop : T.prop 253 = some (4, 5) := rfl
theorem small_w {w : Int} (hw : 1 ≤ w ∧ w ≤ 256) : small w = true := by
  unfold small
  exact decide_eq_true (by omega)
def Kid.step (x : Kid) : Kid := { x with df := (256 + x.df).fmod x.w }
/-- an item after its turn -/
def Item.step (p : Item) : Item := (p.1 + (256 + p.2.df).fdiv p.2.w, p.2.step)
structure Mid (n q p r d k e : Nat) (σ0 σ : St) (vq vp : List V) (f g : Fld) : Prop where
  K : Keep (fun i => i = q ∨ i = d ∨ i = e ∨ n ≤ i) σ0 σ
  hq : σ[q]? = some (.list vq)
  hp : σ[p]? = some (.list vp)
  hr : StAt σ r d f
  hx : StAt σ k e g
section
variable {n q p r d k e : Nat} {σ0 σ : St} {vq vp : List V} {f g : Fld}
theorem Mid.app (h : Mid n q p r d k e σ0 σ vq vp f g) (τ : St) : Mid n q p r d k e σ0 (σ ++ τ) vq vp f g :=
  ⟨h.K.trans (Keep.app _ σ τ) fun _ _ h => h, get_app h.hq, get_app h.hp, ⟨get_app h.hr.1, get_app h.hr.2⟩, ⟨get_app h.hx.1, get_app h.hx.2⟩⟩
theorem ne_of_get {σ : St} {i j : Nat} {o o' : O} (h : σ[i]? = some o) (h' : σ[j]? = some o') (n : o ≠ o') : i ≠ j := by
  rintro rfl
  rw [h] at h'
  exact n (Option.some.inj h')
theorem Mid.setq (h : Mid n q p r d k e σ0 σ vq vp f g) (hpq : q ≠ p) (us : List V) : Mid n q p r d k e σ0 (σ.set q (.list us)) us vp f g :=
  ⟨h.K.trans (Keep.set h.hq rfl (.inl rfl)) fun _ _ h => h, get_set h.hq, get_set_ne hpq h.hp,
    ⟨get_set_ne (ne_of_get h.hq h.hr.1 (by simp)) h.hr.1, get_set_ne (ne_of_get h.hq h.hr.2 (by simp [Fld.ns])) h.hr.2⟩,
    ⟨get_set_ne (ne_of_get h.hq h.hx.1 (by simp)) h.hx.1, get_set_ne (ne_of_get h.hq h.hx.2 (by simp [Fld.ns])) h.hx.2⟩⟩
theorem Mid.setp (h : Mid n q p r d k e σ0 σ vq vp f g) (hpq : q ≠ p) (hn : n ≤ p) (us : List V) : Mid n q p r d k e σ0 (σ.set p (.list us)) vq us f g :=
  ⟨h.K.trans (Keep.set h.hp rfl (.inr (.inr (.inr hn)))) fun _ _ h => h, get_set_ne (Ne.symm hpq) h.hq, get_set h.hp,
    ⟨get_set_ne (ne_of_get h.hp h.hr.1 (by simp)) h.hr.1, get_set_ne (ne_of_get h.hp h.hr.2 (by simp [Fld.ns])) h.hr.2⟩,
    ⟨get_set_ne (ne_of_get h.hp h.hx.1 (by simp)) h.hx.1, get_set_ne (ne_of_get h.hp h.hx.2 (by simp [Fld.ns])) h.hx.2⟩⟩
theorem Mid.setr (h : Mid n q p r d k e σ0 σ vq vp f g) (hde : d ≠ e) (f' : Fld) : Mid n q p r d k e σ0 (σ.set d f'.ns) vq vp f' g :=
  ⟨h.K.trans (Keep.set h.hr.2 rfl (.inr (.inl rfl))) fun _ _ h => h, get_set_ne (ne_of_get h.hr.2 h.hq (by simp [Fld.ns])) h.hq, get_set_ne (ne_of_get h.hr.2 h.hp (by simp [Fld.ns])) h.hp,
    ⟨get_set_ne (ne_of_get h.hr.2 h.hr.1 (by simp [Fld.ns])) h.hr.1, get_set h.hr.2⟩, ⟨get_set_ne (ne_of_get h.hr.2 h.hx.1 (by simp [Fld.ns])) h.hx.1, get_set_ne hde h.hx.2⟩⟩
theorem Mid.setx (h : Mid n q p r d k e σ0 σ vq vp f g) (hde : d ≠ e) (g' : Fld) : Mid n q p r d k e σ0 (σ.set e g'.ns) vq vp f g' :=
  ⟨h.K.trans (Keep.set h.hx.2 rfl (.inr (.inr (.inl rfl)))) fun _ _ h => h, get_set_ne (ne_of_get h.hx.2 h.hq (by simp [Fld.ns])) h.hq, get_set_ne (ne_of_get h.hx.2 h.hp (by simp [Fld.ns])) h.hp,
    ⟨get_set_ne (ne_of_get h.hx.2 h.hr.1 (by simp [Fld.ns])) h.hr.1, get_set_ne (Ne.symm hde) h.hr.2⟩, ⟨get_set_ne (ne_of_get h.hx.2 h.hx.1 (by simp [Fld.ns])) h.hx.1, get_set h.hx.2⟩⟩
end
theorem sched_body (m : Nat) {σ : St} {t : TA} {lw l : Int} {x : Kid} {rest : List Item} {kvs : List (Int × V)} (h : Flat σ t lw ((l, x) :: rest) kvs) (hw : 1 ≤ x.w ∧ x.w ≤ 256) (hz : rest.length < 900) :
    WR (callN (m + 10) 8 [.ref t.r] σ) fun v σ' => v = .int x.id ∧ Flat σ' t l (ins (Item.step (l, x)) rest) kvs ∧ Keep (· ∈ fp t ((l, x) :: rest)) σ σ' := by
  rw [callN_8 (m + 8)]
  refine WR.runF' (lo := [some (.ref t.r), none, none, none, none, none]) (cl := []) (σ' := σ) rfl rfl rfl (List.append_nil _) ?_
  unfold ev_Stream_schedule
  obtain ⟨hT, hB, hR, hD, ⟨cs, c1, c2⟩, ⟨vs, q1, q2⟩, nd⟩ := h
  have nd' := nd
  simp only [fp, List.map_cons, List.nodup_cons, List.mem_cons, not_or, List.mem_map, not_exists, not_and] at nd'
  obtain ⟨⟨nbd, nbdd, nbq, nbcl, nbx, nbr⟩, ⟨ndd, ndq, ndcl, ndx, ndr⟩, ⟨nddq, nddcl, nddx, nddr⟩, ⟨nqcl, nqx, nqr⟩, ⟨nclx, nclr⟩, nxr, -⟩ := nd'
  obtain ⟨v0, vt, rfl, ⟨x0, rfl, it1, it2⟩, q3⟩ : ∃ v0 vt, vs = v0 :: vt ∧ ItK σ t v0 (l, x) ∧ All2 (ItK σ t) vt rest := by
    cases vs with
    | nil => exact q2.elim
    | cons v0 vt => exact ⟨v0, vt, rfl, q2.1, q2.2⟩
  refine WS.assert ?_
  have a5 := attr_st hR 5 rfl rfl
  simp only [notB, truE, attrE, locE, List.getElem?_cons_zero, Option.join_some, Option.map_some, bindR, a5, TA.fld, truV, WR.ok, Bool.not_false, true_and]
  refine WS.asgL (WR.ok.2 ?_)
  refine WS.asgL (WR.ok.2 ?_)
  simp only [setLo, List.set_cons_succ, List.set_cons_zero]
  have ltq : t.q ≠ σ.length := Nat.ne_of_lt (lt_of_get q1)
  have M1 : Mid σ.length t.q σ.length t.r t.d x.k x.d σ (σ ++ [.list []]) (.ref x0 :: vt) [] (t.fld lw) (x.fld t) :=
    ⟨Keep.app _ _ _, get_app q1, by simp, ⟨get_app hR.1, get_app hR.2⟩, ⟨get_app it2.1, get_app it2.2⟩⟩
  generalize hp : σ.length = p at *
  generalize σ ++ [O.list []] = σ1 at *
  -- the loop
  have M2 := M1.setq ltq vt
  have M3 := M2.setp ltq (Nat.le_refl _) [.ref x0]
  have e2 := pop_eq (m + 6) M1.hq
  generalize hσ2 : σ1.set t.q (O.list vt) = σ2 at *
  generalize hσ3 : σ2.set p (O.list [V.ref x0]) = σ3 at *
  have t3 : σ3[x0]? = some (.tup [.int l, .ref x.k]) := M3.K.at_ _ _ it1 (.inl rfl)
  refine WS.consB ?_
  refine WS.finN ?_
  refine WS.consB ?_
  refine WS.whileT ?_
  simp only [truE, cmpE, locE, noneE, List.getElem?_cons_zero, List.getElem?_cons_succ, Option.join_some, Option.map_some, bindR, cmpV, isNoneV, truV, WR.ok, true_and]
  refine WS.asgL ?_
  have b4 := attr_st M1.hr 4 rfl rfl
  simp only [callE, consS, nilS, attrE, locE, List.getElem?_cons_zero, Option.join_some, Option.map_some, bindR, b4, TA.fld, e2, WR.ok]
  refine WS.exprS ?_
  simp only [lmE, consS, nilS, locE, setLo, List.set_cons_succ, List.set_cons_zero, List.getElem?_cons_zero, List.getElem?_cons_succ, Option.join_some, Option.map_some, bindR, listAtV, M2.hp, if_true, appV, List.length_nil, Nat.zero_lt_succ, List.nil_append, hσ3, WR.ok]
  refine WS.cons (R := fun lo σ' => σ3 = σ' ∧ lo = [some (.ref t.r), some .none, some (.ref p), some (.ref x0), some (.int l), some (.ref x.k)]) ?_ ?_
  · simp only [asgTE, locE, List.getElem?_cons_zero, List.getElem?_cons_succ, Option.join_some, Option.map_some, bindE, tgT, t3, stores, tgL, setLo, List.set_cons_succ, List.set_cons_zero, Option.bind_some]
    exact ⟨_, _, _, rfl, rfl, rfl, rfl⟩
  rintro lo _ ⟨rfl, rfl⟩
  refine WS.ifT ?_
  have c5 := attr_st M3.hx 5 rfl rfl
  have c0 := attr_st M3.hx 0 rfl rfl
  simp only [truE, attrE, locE, List.getElem?_cons_zero, List.getElem?_cons_succ, Option.join_some, Option.map_some, bindR, c5, Kid.fld, truV, WR.ok, true_and]
  refine WS.consAssoc.2 (WS.asgL ?_)
  simp only [attrE, locE, List.getElem?_cons_zero, List.getElem?_cons_succ, Option.join_some, Option.map_some, bindR, c0, Kid.fld, WR.ok, setLo, List.set_cons_succ, List.set_cons_zero]
  refine WS.nilCons.2 (WS.nil.2 ?_)
  refine WS.whileF ?_
  simp only [truE, cmpE, locE, noneE, List.getElem?_cons_zero, List.getElem?_cons_succ, Option.join_some, Option.map_some, bindR, cmpV, isNoneV, truV, WR.ok, true_and]
  refine WS.nil.2 ?_
  -- the block behind
  refine WS.consB ?_
  refine WS.forS (a := .ref p) (σ1 := σ3) (kd := .list) (len := 1) rfl ?_ (.inr rfl) (fun j lo σ' => ∃ vq f g y z, Mid p t.q p t.r t.d x.k x.d σ σ' vq [.ref x0] f g ∧ lo = [some (.ref t.r), some (.int x.id), some (.ref p), some (.ref x0), some y, some z] ∧
    ((j = 0 ∧ vt = vq ∧ f = t.fld lw ∧ g = x.fld t) ∨ (j = 1 ∧ f = t.fld l ∧ g = x.step.fld t ∧ All2 (ItK σ' t) vq (ins (Item.step (l, x)) rest)))) ?_ ?_ ?_ ?_
  · simp only [kdOf, M3.hp, List.length_cons, List.length_nil]
  · exact ⟨_, _, _, _, _, M3, rfl, .inl ⟨rfl, rfl, rfl, rfl⟩⟩
  · rintro j lo σ' ⟨vq, f, g, y, z, M, -, -⟩
    simp only [kdOf, M.hp, List.length_cons, List.length_nil]
  · rintro j lo σ' hj ⟨vq, f, g, y, z, M, rfl, h⟩
    obtain rfl : j = 0 := by omega
    rcases h with ⟨-, rfl, rfl, rfl⟩ | ⟨h, -⟩
    rotate_left
    · omega
    have t4 : σ'[x0]? = some (.tup [.int l, .ref x.k]) := M.K.at_ _ _ it1 (.inl rfl)
    refine ⟨.ref x0, [some (.ref t.r), some (.int x.id), some (.ref p), some (.ref x0), some (.int l), some (.ref x.k)], σ', ?_, ?_, ?_⟩
    · simp only [itemAt, M.hp, List.getElem?_cons_zero]
    · simp only [tgT, t4, stores, tgL, setLo, List.set_cons_succ, List.set_cons_zero, Option.bind_some]
    have M4 := M.setr ndx (t.fld l)
    refine WS.asgA ⟨_, _, rfl, t.r, t.d, _, σ', rfl, M.hr.1, M.hr.2, by simp, ?_⟩
    show WS (consL _ _ _ (σ'.set t.d (t.fld l).ns)) _
    generalize σ'.set t.d (t.fld l).ns = σ4 at *
    refine WS.augL (a := .int l) rfl ?_
    have d7 := attr_st M4.hx 7 rfl rfl
    have w4 := weight_eq (m + 6) M4.hx
    have w5 := M4.hx.1
    have w6 := M4.hx.2
    have sw := small_w hw
    have w0 : x.w ≠ 0 := by omega
    unfold Fld.ns at w6
    simp only [binE, intE, attrE, propE, locE, List.getElem?_cons_zero, List.getElem?_cons_succ, Option.join_some, Option.map_some, bindR, d7, Kid.fld, binV, propV, w5, w6, T_cls, T_prop, if_true, w4, plainV, w0, sw, ne_eq, not_false_eq_true, and_self, inpV, WR.ok]
    simp only [setLo, List.set_cons_succ, List.set_cons_zero]
    have M5 := M4.setx ndx (x.step.fld t)
    refine WS.asgA (i := 7) ?_
    refine WR.of_eq (a := .int ((256 + x.df).fmod x.w)) (σ := σ4) ?_ ⟨x.k, x.d, _, σ4, rfl, M4.hx.1, M4.hx.2, by simp, ?_⟩
    · simp only [binE, intE, attrE, propE, locE, List.getElem?_cons_zero, List.getElem?_cons_succ, Option.join_some, Option.map_some, bindR, d7, Kid.fld, binV, propV, w5, w6, T_cls, T_prop, if_true, w4, plainV, w0, sw, ne_eq, not_false_eq_true, and_self]
    show WS (consL _ _ _ (σ4.set x.d (x.step.fld t).ns)) _
    generalize σ4.set x.d (x.step.fld t).ns = σ5 at *
    refine WS.exprS ?_
    have b5 := attr_st M5.hr 4 rfl rfl
    simp only [callE, consS, nilS, tupE, attrE, locE, List.getElem?_cons_zero, List.getElem?_cons_succ, Option.join_some, Option.map_some, bindR, b5, TA.fld, List.length_cons, List.length_nil, Nat.reduceLeDiff, if_true]
    have M6 := M5.app [.tup [.int (l + (256 + x.df).fdiv x.w), .ref x.k]]
    have i6 : (σ5 ++ [O.tup [.int (l + (256 + x.df).fdiv x.w), .ref x.k]])[σ5.length]? = some (.tup [.int (l + (256 + x.df).fdiv x.w), .ref x.k]) := by simp
    generalize hn : σ5.length = n at *
    generalize (σ5 ++ [O.tup [.int (l + (256 + x.df).fdiv x.w), .ref x.k]]) = σ6 at *
    have keepR : ∀ {σ'' : St} {vq vp : List V} {f g : Fld}, Mid p t.q p t.r t.d x.k x.d σ σ'' vq vp f g → All2 (ItK σ'' t) vt rest := fun M => q3.impM fun a b mm r => r.keep M.K (by
      have h1 := nqr _ mm
      have h2 := ndr _ mm
      have h3 := nxr _ mm
      have h4 : b.2.d < p := by obtain ⟨y, _, _, hy⟩ := r; exact hp ▸ lt_of_get hy.2
      omega)
    obtain ⟨us, hpu, hu, hl⟩ := push_ok (m + 2) M6.hq (keepR M6) (x := n) (l := l + (256 + x.df).fdiv x.w) (v := x.step) ⟨n, rfl, i6, M6.hx⟩ (by have := q3.length; omega)
    refine WR.of_eq hpu ?_
    refine WS.nil.2 ?_
    have M7 := M6.setq ltq us
    refine ⟨us, _, _, _, _, M7, rfl, .inr ⟨by trivial, by trivial, by trivial, hu.impM fun a b mm r => r.keep (Keep.set (S := (· = t.q)) M6.hq rfl rfl) ?_⟩⟩
    rcases (ins_mem b).1 mm with rfl | mm
    · exact Ne.symm nqx
    · exact nqr _ mm
  · rintro lo σ' ⟨vq, f, g, y, z, M, rfl, h⟩
    rcases h with ⟨h, -⟩ | ⟨-, rfl, rfl, hu⟩
    · omega
    refine WS.nil.2 ⟨by trivial, ?_⟩
    refine WS.retS (WR.ok.2 ⟨by trivial, ?_, ?_⟩)
    · have hd : ∀ i o, σ[i]? = some o → i ≠ t.q → i ≠ t.d → i ≠ x.d → σ'[i]? = some o := fun i o e h1 h2 h3 => M.K.at_ _ _ e (.inr (by have := lt_of_get e; omega))
      refine ⟨M.K.at_ _ _ hT (.inl rfl), hd _ _ hB nbq nbd nbx, M.hr, hd _ _ hD nddq (Ne.symm ndd) nddx, ⟨cs, hd _ _ c1 (Ne.symm nqcl) (Ne.symm ndcl) nclx, ?_⟩, ⟨vq, M.hq, hu⟩, ?_⟩
      · rw [(ins_perm _ _).length_eq, c2]; rfl
      · have : (fp t (ins (Item.step (l, x)) rest)).Perm (fp t ((l, x) :: rest)) := by
          have p1 := ((ins_perm (Item.step (l, x)) rest).map (fun p : Item => p.2.d))
          simp only [fp]
          exact (((((p1.cons t.cl).cons t.q).cons t.dd).cons t.d).cons t.b)
        exact this.nodup_iff.2 nd
    · refine ⟨fun i o e hi => M.K.at_ i o e (hi.imp id fun hi => ?_), M.K.len⟩
      have := lt_of_get e
      simp only [fp, List.map_cons, List.mem_cons, not_or] at hi
      omega
end L3
end Mine

end
noncomputable section
open PySem PySem.W PyProof.Rows
set_option linter.unusedVariables false
set_option linter.unusedSimpArgs false
set_option autoImplicit false
set_option Elab.async false
set_option maxRecDepth 100000
set_option maxHeartbeats 1000000
namespace Mine
namespace L3
theorem callN_17 (m : Nat) (args : List V) (σ : St) : callN (m + 2) 17 args σ = runF full_PriorityTree_next pl_PriorityTree_next pc_PriorityTree_next (ev_PriorityTree_next (callN m)) args σ := rfl
theorem callN_16 (m : Nat) (args : List V) (σ : St) : callN (m + 2) 16 args σ = runF full_PriorityTree___next__ pl_PriorityTree___next__ pc_PriorityTree___next__ (ev_PriorityTree___next__ (callN m)) args σ := rfl
theorem callN_11 (m : Nat) (args : List V) (σ : St) : callN (m + 2) 11 args σ = runF full_PriorityTree___init__ pl_PriorityTree___init__ pc_PriorityTree___init__ (ev_PriorityTree___init__ (callN m)) args σ := rfl
theorem callN_12 (m : Nat) (args : List V) (σ : St) : callN (m + 2) 12 args σ = runF full_PriorityTree__get_or_insert_parent pl_PriorityTree__get_or_insert_parent pc_PriorityTree__get_or_insert_parent (ev_PriorityTree__get_or_insert_parent (callN m)) args σ := rfl
theorem callN_14 (m : Nat) (args : List V) (σ : St) : callN (m + 2) 14 args σ = runF full_PriorityTree_insert_stream pl_PriorityTree_insert_stream pc_PriorityTree_insert_stream (ev_PriorityTree_insert_stream (callN m)) args σ := rfl
theorem T_m17 : T.mth 347 15 = some 17 := rfl
theorem T_m16 : T.mth 347 14 = some 16 := rfl
theorem T_m8 : T.mth 253 6 = some 8 := rfl
theorem T_m6 : T.mth 253 3 = some 6 := rfl
theorem T_m14 : T.mth 347 9 = some 14 := rfl
theorem T_m12 : T.mth 347 7 = some 12 := rfl
theorem attr_ns {σ : St} {k d c : Nat} {fs : List (Nat × V)} (h1 : σ[k]? = some (.inst c d)) (h2 : σ[d]? = some (.ns fs)) (hc : T.isCls c = true) (i : Nat) {j : Nat} {v : V} (hv : fs.find? (fun p => p.1 == i) = some (j, v)) (hp : plainV v = true) (hi : i < nmN := by decide) : attrV T i (.ref k) σ = some (.ok v σ) := by
  simp only [attrV, h1, h2, hv, hp, hi, hc, if_true, Option.bind_some]
theorem meth_at {σ : St} {k d c m g : Nat} {fs : List (Nat × V)} (h1 : σ[k]? = some (.inst c d)) (h2 : σ[d]? = some (.ns fs)) (hc : T.isCls c = true) (hm : T.mth c m = some g) : methV T m (.ref k) σ = some (k, g) := by
  simp only [methV, h1, h2, hc, hm, if_true]
theorem next_ok (m : Nat) {σ : St} {t : TA} {lw l : Int} {x : Kid} {rest : List Item} {kvs : List (Int × V)} (h : Flat σ t lw ((l, x) :: rest) kvs) (hw : 1 ≤ x.w ∧ x.w ≤ 256) (hz : rest.length < 900) :
    WR (callN (m + 14) 17 [.ref t.a] σ) fun v σ' => v = .int x.id ∧ Flat σ' t l (ins (Item.step (l, x)) rest) kvs ∧ Keep (· ∈ fp t ((l, x) :: rest)) σ σ' := by
  have hs := sched_body m h hw hz
  obtain ⟨hT, hB, hR, hD, -, -, -⟩ := h
  rw [callN_17 (m + 12)]
  refine WR.runF' (lo := [some (.ref t.a)]) (cl := []) (σ' := σ) rfl rfl rfl (List.append_nil _) ?_
  unfold ev_PriorityTree_next
  refine WS.retS ?_
  simp only [methE, locE, List.getElem?_cons_zero, Option.join_some, Option.map_some, bindR, meth_at hT hB T_cls2 T_m16, nilS]
  rw [callN_16 (m + 10)]
  refine WR.runF' (lo := [some (.ref t.a)]) (cl := []) (σ' := σ) rfl rfl rfl (List.append_nil _) ?_
  unfold ev_PriorityTree___next__
  refine WS.consB ?_
  refine WS.tryN ?_
  refine WS.retS ?_
  simp only [methE, attrE, locE, List.getElem?_cons_zero, Option.join_some, Option.map_some, bindR, attr_ns hT hB T_cls2 8 rfl rfl, meth_at hR.1 hR.2 T_cls T_m8, nilS]
  exact hs
theorem tree_ok (m : Nat) (σ : St) : WR (newV (callN (m + 8)) 347 11 [] σ) fun v σ' => ∃ t, v = .ref t.a ∧ Flat σ' t 0 [] [(0, .ref t.r)] ∧ Keep (fun _ => False) σ σ' ∧ ∀ i ∈ fp t [], σ.length ≤ i := by
  unfold newV
  refine WR.bind.2 ?_
  rw [callN_11 (m + 6)]
  have h1 : (σ ++ [O.ns [], .inst 347 σ.length])[σ.length + 1]? = some (.inst 347 σ.length) := by simp [List.getElem?_append_right]
  have h2 : (σ ++ [O.ns [], .inst 347 σ.length])[σ.length]? = some (.ns []) := by simp [List.getElem?_append_right]
  have K1 : Keep (fun i => σ.length ≤ i) σ (σ ++ [O.ns [], .inst 347 σ.length]) := Keep.app _ _ _
  have l1 : (σ ++ [O.ns [], .inst 347 σ.length]).length = σ.length + 2 := by simp
  generalize hn : σ.length = n at *
  generalize (σ ++ [O.ns [], .inst 347 n]) = σ1 at *
  refine WR.runF' (lo := [some (.ref (n + 1)), some (.int 1000)]) (cl := []) (σ' := σ1) rfl rfl rfl (List.append_nil _) ?_
  unfold ev_PriorityTree___init__
  refine WS.asgA2 (i := 8) ?_
  simp only [newE, consS, nilS, intE, bindR, newV]
  have g1 : (σ1 ++ [O.ns [], .inst 253 σ1.length])[σ1.length + 1]? = some (.inst 253 σ1.length) := by simp [List.getElem?_append_right]
  have g2 : (σ1 ++ [O.ns [], .inst 253 σ1.length])[σ1.length]? = some (.ns []) := by simp [List.getElem?_append_right]
  have i1 : (σ1 ++ [O.ns [], .inst 253 σ1.length])[n + 1]? = some (.inst 347 n) := get_app h1
  have i2 : (σ1 ++ [O.ns [], .inst 253 σ1.length])[n]? = some (.ns []) := get_app h2
  have K2 : Keep (fun i => n ≤ i) σ (σ1 ++ [O.ns [], .inst 253 σ1.length]) := K1.trans (Keep.app (fun _ => False) _ _) (fun _ _ h => h.elim)
  have l2 : (σ1 ++ [O.ns [], .inst 253 σ1.length]).length = n + 4 := by simp [l1]
  rw [l1] at g1 g2 i1 i2 K2 l2 ⊢
  generalize (σ1 ++ [O.ns [], .inst 253 (n + 2)]) = σ2 at *
  refine WR.bind.2 ((init_ok m g1 g2 (by decide) 23 (.inr rfl)).mono ?_)
  rintro v σ3 ⟨rfl, K3, l3, s3, q3, c3⟩
  rw [l2] at l3 s3 q3 c3
  simp only [WR.ok]
  have j1 : σ3[n + 1]? = some (.inst 347 n) := K3.at_ _ _ i1 (.inl rfl)
  have j2 : σ3[n]? = some (.ns []) := K3.at_ _ _ i2 (.inr (by omega))
  have K4 := K2.trans K3 (fun i hi e => by have : i = n + 2 := e; omega)
  refine ⟨n + 1, n, _, σ3, rfl, j1, j2, by simp, ?_⟩
  simp only [putF]
  have sne : ∀ {i : Nat} {o : O} (o' : O), i ≠ n → σ3[i]? = some o → (σ3.set n o')[i]? = some o := fun o' h e => get_set_ne (Ne.symm h) e
  have j3 : (σ3.set n (.ns [(8, .ref (n + 2 + 1))]))[n]? = some (.ns [(8, .ref (n + 2 + 1))]) := get_set j2
  have j4 := sne (.ns [(8, .ref (n + 2 + 1))]) (by omega) j1
  have s4 : StAt (σ3.set n (.ns [(8, .ref (n + 2 + 1))])) (n + 2 + 1) (n + 2) _ := ⟨sne _ (by omega) s3.1, sne _ (by omega) s3.2⟩
  have q4 := sne (.ns [(8, .ref (n + 2 + 1))]) (by omega) q3
  have c4 := sne (.ns [(8, .ref (n + 2 + 1))]) (by omega) c3
  have K5 := K4.trans (Keep.set (S := fun i => n ≤ i) (o' := .ns [(8, .ref (n + 2 + 1))]) j2 rfl (Nat.le_refl _)) (fun _ _ h => h)
  have l5 : (σ3.set n (.ns [(8, .ref (n + 2 + 1))])).length = n + 6 := by simp [l3]
  generalize σ3.set n (.ns [(8, .ref (n + 2 + 1))]) = σ4 at *
  refine WS.asgA (i := 5) ⟨_, _, rfl, n + 2 + 1, n + 2, _, σ4, ?_, s4.1, s4.2, by simp, ?_⟩
  · simp only [attrE, locE, List.getElem?_cons_zero, Option.join_some, Option.map_some, bindR, attr_ns j4 j3 T_cls2 8 rfl rfl]
  simp only [putF]
  show WS (consL _ _ _ (σ4.set (n + 2) (Fld.ns ⟨0, 1, n + 4, .none, n + 4 + 1, false, 0, 0⟩))) _
  have sne : ∀ {i : Nat} {o : O} (o' : O), i ≠ n + 2 → σ4[i]? = some o → (σ4.set (n + 2) o')[i]? = some o := fun o' h e => get_set_ne (Ne.symm h) e
  have j5 := sne (Fld.ns ⟨0, 1, n + 4, .none, n + 4 + 1, false, 0, 0⟩) (by omega) j3
  have j6 := sne (Fld.ns ⟨0, 1, n + 4, .none, n + 4 + 1, false, 0, 0⟩) (by omega) j4
  have s5 : StAt (σ4.set (n + 2) (Fld.ns ⟨0, 1, n + 4, .none, n + 4 + 1, false, 0, 0⟩)) (n + 2 + 1) (n + 2) ⟨0, 1, n + 4, .none, n + 4 + 1, false, 0, 0⟩ := ⟨sne _ (by omega) s4.1, get_set s4.2⟩
  have q5 := sne (Fld.ns ⟨0, 1, n + 4, .none, n + 4 + 1, false, 0, 0⟩) (by omega) q4
  have c5 := sne (Fld.ns ⟨0, 1, n + 4, .none, n + 4 + 1, false, 0, 0⟩) (by omega) c4
  have K6 := K5.trans (Keep.set (S := fun i => n ≤ i) (o' := Fld.ns ⟨0, 1, n + 4, .none, n + 4 + 1, false, 0, 0⟩) s4.2 rfl (by omega)) (fun _ _ h => h)
  have l6 : (σ4.set (n + 2) (Fld.ns ⟨0, 1, n + 4, .none, n + 4 + 1, false, 0, 0⟩)).length = n + 6 := by simp [l5]
  generalize (σ4.set (n + 2) (Fld.ns ⟨0, 1, n + 4, .none, n + 4 + 1, false, 0, 0⟩)) = σ5 at *
  refine WS.asgA2 (i := 9) ?_
  simp only [dict1, attrE, locE, List.getElem?_cons_zero, Option.join_some, Option.map_some, bindR, attr_ns j6 j5 T_cls2 8 rfl rfl, WR.ok]
  have d7 : (σ5 ++ [O.dict [(0, .ref (n + 2 + 1))] none])[σ5.length]? = some (.dict [(0, .ref (n + 2 + 1))] none) := by simp
  refine ⟨n + 1, n, _, _, rfl, get_app j6, get_app j5, by simp, ?_⟩
  rw [l6] at d7 ⊢
  show WS (consL _ _ _ ((σ5 ++ [O.dict [(0, .ref (n + 2 + 1))] none]).set n (.ns [(8, .ref (n + 2 + 1)), (9, .ref (n + 6))]))) _
  have b7 : (σ5 ++ [O.dict [(0, .ref (n + 2 + 1))] none])[n]? = _ := get_app j5
  have sne : ∀ {i : Nat} {o : O} (o' : O), i ≠ n → (σ5 ++ [O.dict [(0, .ref (n + 2 + 1))] none])[i]? = some o → ((σ5 ++ [O.dict [(0, .ref (n + 2 + 1))] none]).set n o')[i]? = some o := fun o' h e => get_set_ne (Ne.symm h) e
  have j7 : ((σ5 ++ [O.dict [(0, .ref (n + 2 + 1))] none]).set n (.ns [(8, .ref (n + 2 + 1)), (9, .ref (n + 6))]))[n]? = some (.ns [(8, .ref (n + 2 + 1)), (9, .ref (n + 6))]) := get_set b7
  have j8 := sne (.ns [(8, .ref (n + 2 + 1)), (9, .ref (n + 6))]) (by omega) (get_app j6)
  have s8 : StAt ((σ5 ++ [O.dict [(0, .ref (n + 2 + 1))] none]).set n (.ns [(8, .ref (n + 2 + 1)), (9, .ref (n + 6))])) (n + 2 + 1) (n + 2) _ := ⟨sne _ (by omega) (get_app s5.1), sne _ (by omega) (get_app s5.2)⟩
  have q8 := sne (.ns [(8, .ref (n + 2 + 1)), (9, .ref (n + 6))]) (by omega) (get_app q5)
  have c8 := sne (.ns [(8, .ref (n + 2 + 1)), (9, .ref (n + 6))]) (by omega) (get_app c5)
  have d8 := sne (.ns [(8, .ref (n + 2 + 1)), (9, .ref (n + 6))]) (by omega) d7
  have K8 := (K6.trans (Keep.app (fun _ => False) _ [O.dict [(0, .ref (n + 2 + 1))] none]) (fun _ _ h => h.elim)).trans (Keep.set (S := fun i => n ≤ i) (o' := .ns [(8, .ref (n + 2 + 1)), (9, .ref (n + 6))]) b7 rfl (Nat.le_refl _)) (fun _ _ h => h)
  generalize ((σ5 ++ [O.dict [(0, .ref (n + 2 + 1))] none]).set n (.ns [(8, .ref (n + 2 + 1)), (9, .ref (n + 6))])) = σ6 at *
  refine WS.ifF ?_
  simp only [notB, truE, biE, consS, nilS, locE, gloE, List.getElem?_cons_zero, List.getElem?_cons_succ, Option.join_some, Option.map_some, bindR, isiV, if_true, truV, WR.ok, Bool.not_true, true_and]
  refine WS.nilCons.2 ?_
  refine WS.ifF ?_
  simp only [cmpE, truE, locE, intE, List.getElem?_cons_zero, List.getElem?_cons_succ, Option.join_some, Option.map_some, bindR, cmpV, truV, WR.ok]
  refine ⟨by decide, ?_⟩
  refine WS.nilCons.2 ?_
  refine WS.asgA2 (i := 10) ⟨_, _, rfl, n + 1, n, _, σ6, rfl, j8, j7, by simp, ?_⟩
  refine WS.nil.2 ?_
  show ∃ t : TA, _
  have sne : ∀ {i : Nat} {o : O} (o' : O), i ≠ n → σ6[i]? = some o → (σ6.set n o')[i]? = some o := fun o' h e => get_set_ne (Ne.symm h) e
  refine ⟨⟨n + 1, n, n + 2 + 1, n + 2, n + 6, n + 4 + 1, n + 4⟩, rfl, ⟨?_, ?_, ⟨?_, ?_⟩, ?_, ⟨[], ?_, rfl⟩, ⟨[], ?_, trivial⟩, ?_⟩, ?_, ?_⟩
  · exact sne _ (by dsimp only; omega) j8
  · exact get_set j7
  · exact sne _ (by dsimp only; omega) s8.1
  · exact sne _ (by dsimp only; omega) s8.2
  · exact sne _ (by dsimp only; omega) d8
  · exact sne _ (by dsimp only; omega) q8
  · exact sne _ (by dsimp only; omega) c8
  · simp only [fp, List.map_nil, List.nodup_cons, List.mem_cons, List.not_mem_nil, or_false, not_or, not_false_eq_true, List.nodup_nil, and_true]
    omega
  · have K9 := K8.trans (Keep.set (S := fun i => n ≤ i) (o' := .ns [(8, .ref (n + 2 + 1)), (9, .ref (n + 6)), (10, .int 1000)]) j7 rfl (Nat.le_refl _)) (fun _ _ h => h)
    exact ⟨fun i o e hi => K9.at_ i o e (.inr (by have := lt_of_get e; omega)), K9.len⟩
  · simp only [fp, List.map_nil, List.mem_cons, List.not_mem_nil, or_false]
    omega
end L3
end Mine

end
noncomputable section
open PySem PySem.W PyProof.Rows
set_option linter.unusedVariables false
set_option linter.unusedSimpArgs false
set_option autoImplicit false
set_option Elab.async false
set_option maxRecDepth 100000
set_option maxHeartbeats 1000000
namespace Mine
namespace L3
theorem parent_ok (m : Nat) {σ : St} {t : TA} {lw : Int} {its : List Item} {kvs : List (Int × V)} (h : Flat σ t lw its kvs) (hk : (kvs.find? fun p => p.1 == 0) = some (0, .ref t.r)) :
    WR (callN (m + 2) 12 [.ref t.a, .int 0] σ) fun v σ' => v = .ref t.r ∧ σ' = σ := by
  rw [callN_12 m]
  refine WR.runF' (lo := [some (.ref t.a), some (.int 0)]) (cl := []) (σ' := σ) rfl rfl rfl (List.append_nil _) ?_
  unfold ev_PriorityTree__get_or_insert_parent
  refine WS.consB (WS.tryN (WS.retS ?_))
  simp only [subE, attrE, locE, List.getElem?_cons_zero, List.getElem?_cons_succ, Option.join_some, Option.map_some, bindR, attr_ns h.hT h.hB T_cls2 9 rfl rfl, getV, h.hD, hk, WR.ok, and_self]
theorem insert_ok (m : Nat) {σ : St} {t : TA} {lw : Int} {its : List Item} {kvs : List (Int × V)} (h : Flat σ t lw its kvs) (hk : (kvs.find? fun p => p.1 == 0) = some (0, .ref t.r)) {id w : Int} (hi : (kvs.any fun p => p.1 == id) = false) (hw : 1 ≤ w ∧ w ≤ 256) (hz : its.length < 900) (hy : kvs.length < 900) :
    WR (callN (m + 12) 14 [.ref t.a, .int id, .none, .int w] σ) fun v σ' => v = .none ∧ ∃ x : Kid, x.id = id ∧ x.w = w ∧ x.df = 0 ∧ σ.length ≤ x.d ∧ Flat σ' t lw (ins (lw, x) its) (kvs ++ [(id, .ref x.k)]) ∧ Keep (· ∈ fp t its) σ σ' := by
  rw [callN_14 (m + 10)]
  refine WR.runF' (lo := [some (.ref t.a), some (.int id), some .none, some (.int w), some (.bool false), none, none, none]) (cl := []) (σ' := σ) rfl rfl rfl (List.append_nil _) ?_
  unfold ev_PriorityTree_insert_stream
  have a9 := attr_ns h.hT h.hB T_cls2 9 rfl rfl
  have a10 := attr_ns h.hT h.hB T_cls2 10 rfl rfl
  refine WS.ifF ?_
  simp only [truE, cmpE, attrE, locE, List.getElem?_cons_zero, List.getElem?_cons_succ, Option.join_some, Option.map_some, bindR, a9, cmpV, h.hD, hi, truV, WR.ok, true_and]
  refine WS.nilCons.2 (WS.ifF ?_)
  have hc : decide ((kvs.length : Int) + 1 > 1000) = false := decide_eq_false (by omega)
  simp only [truE, cmpE, attrE, locE, biE, binE, binV, intE, lenV, consS, nilS, List.getElem?_cons_zero, List.getElem?_cons_succ, Option.join_some, Option.map_some, bindR, a9, a10, cmpV, h.hD, hc, truV, WR.ok, true_and]
  refine WS.nilCons.2 (WS.asgL ?_)
  simp only [newE, consS, nilS, locE, List.getElem?_cons_zero, List.getElem?_cons_succ, Option.join_some, Option.map_some, bindR, newV]
  have g1 : (σ ++ [O.ns [], .inst 253 σ.length])[σ.length + 1]? = some (.inst 253 σ.length) := by simp [List.getElem?_append_right]
  have g2 : (σ ++ [O.ns [], .inst 253 σ.length])[σ.length]? = some (.ns []) := by simp [List.getElem?_append_right]
  have K1 : Keep (fun _ => False) σ (σ ++ [O.ns [], .inst 253 σ.length]) := Keep.app _ _ _
  have l1 : (σ ++ [O.ns [], .inst 253 σ.length]).length = σ.length + 2 := by simp
  have lt := h.lt
  generalize hn : σ.length = n at *
  generalize (σ ++ [O.ns [], .inst 253 n]) = σ1 at *
  refine WR.bind.2 ((init_ok (m + 4) g1 g2 hw 3 (.inl rfl)).mono ?_)
  rintro v σ2 ⟨rfl, K2, l2, s2, -, -⟩
  simp only [WR.ok]
  have K3 : Keep (fun _ => False) σ σ2 := by
    have K3 := K1.trans (K2.weak (S' := fun i => n ≤ i) (fun i e => by have : i = n := e; omega)) (S' := fun i => n ≤ i) (S := fun _ => False)
    exact ⟨fun i o e hi => K2.at_ _ _ (K1.at_ i o e hi) (.inr (by have := lt_of_get e; omega)), Nat.le_trans K1.len K2.len⟩
  have F2 := h.keep K3 (fun _ _ h => h)
  simp only [setLo, List.set_cons_succ, List.set_cons_zero]
  refine WS.ifT ?_
  simp only [notB, truE, locE, List.getElem?_cons_zero, List.getElem?_cons_succ, Option.join_some, Option.map_some, bindR, truV, WR.ok, Bool.not_false, true_and]
  refine WS.consAssoc.2 (WS.asgL (WR.ok.2 (WS.nilCons.2 ?_)))
  simp only [setLo, List.set_cons_succ, List.set_cons_zero]
  refine WS.ifF ?_
  simp only [notB, truE, locE, List.getElem?_cons_zero, List.getElem?_cons_succ, Option.join_some, Option.map_some, bindR, truV, WR.ok, true_and]
  refine WS.nilCons.2 (WS.asgL ?_)
  simp only [methE, consS, nilS, locE, List.getElem?_cons_zero, List.getElem?_cons_succ, Option.join_some, Option.map_some, bindR, meth_at F2.hT F2.hB T_cls2 T_m12]
  refine (parent_ok (m + 8) F2 hk).mono ?_
  rintro _ _ ⟨rfl, rfl⟩
  refine WS.exprS ?_
  simp only [setLo, List.set_cons_succ, List.set_cons_zero]
  simp only [methE, consS, nilS, locE, List.getElem?_cons_zero, List.getElem?_cons_succ, Option.join_some, Option.map_some, bindR, meth_at F2.hR.1 F2.hR.2 T_cls T_m6]
  let x : Kid := ⟨n + 1, n, σ1.length, σ1.length + 1, id, w, 0⟩
  have hnx : x.d ∉ fp t its := fun hx => by have := lt _ hx; simp only [x] at this; omega
  refine (add_ok m F2 x s2 hnx hz).mono ?_
  rintro v σ3 ⟨rfl, F3, K4⟩
  refine WS.cons (R := fun lo σ' => σ3.set t.dd (.dict (kvs ++ [(id, .ref x.k)]) none) = σ') ?_ ?_
  · have e1 : storedV kvs id (.ref (n + 1)) = kvs ++ [(id, .ref (n + 1))] := by
      unfold storedV
      rw [if_neg]
      intro h
      obtain ⟨p, hp, he⟩ := List.any_eq_true.1 h
      have h2 := List.any_eq_false.1 hi p hp
      simp only [decide_eq_true_eq] at he
      simp [he] at h2
    have e2 : storedEp kvs id (none : Option Nat) = none := by
      unfold storedEp
      split <;> rfl
    simp only [asgI, attrE, locE, List.getElem?_cons_zero, List.getElem?_cons_succ, Option.join_some, Option.map_some, bindE, bindR, attr_ns F3.hT F3.hB T_cls2 9 rfl rfl, setV, F3.hD, e1, e2, show kvs.length < 16777216 by omega, if_true]
    exact ⟨_, _, _, rfl, rfl, rfl⟩
  rintro lo _ rfl
  refine WS.nil.2 ?_
  have K5 : Keep (· = t.dd) σ3 (σ3.set t.dd (.dict (kvs ++ [(id, .ref x.k)]) none)) := Keep.set (S := (· = t.dd)) F3.hD rfl rfl
  refine ⟨x, rfl, rfl, rfl, Nat.le_refl _, ?_, ?_⟩
  · have nd' := F3.nd
    simp only [fp, List.nodup_cons, List.mem_cons, not_or, List.mem_map, not_exists, not_and] at nd'
    obtain ⟨⟨nbd, nbdd, nbq, nbcl, nbr⟩, ⟨ndd, ndq, ndcl, ndr⟩, ⟨nddq, nddcl, nddr⟩, ⟨nqcl, nqr⟩, nclr, -⟩ := nd'
    obtain ⟨f1, f2, f3, f4, ⟨cs, f5, f6⟩, ⟨vs, f7, f8⟩, f9⟩ := F3
    exact ⟨K5.at_ _ _ f1 (.inl rfl), K5.at_ _ _ f2 (.inr nbdd), f3.keep K5 ndd, get_set f4, ⟨cs, K5.at_ _ _ f5 (.inr (Ne.symm nddcl)), f6⟩, ⟨vs, K5.at_ _ _ f7 (.inr (Ne.symm nddq)), f8.impM fun a b mm r => r.keep K5 (nddr _ mm)⟩, f9⟩
  · refine ⟨fun i o e hi => K5.at_ _ _ (K4.at_ _ _ (K3.at_ i o e (.inr (fun h => h))) (hi.imp (fun h => h) fun hi hx => ?_)) (hi.imp (fun h => h) fun hi hx => hi ?_), Nat.le_trans K3.len (Nat.le_trans K4.len K5.len)⟩
    · rcases List.mem_cons.1 hx with hx | hx
      · have := lt_of_get e
        simp only [x] at hx
        omega
      · exact hi hx
    · have : i = t.dd := hx
      rw [this]; simp [fp]
end L3
end Mine

end
noncomputable section
open PySem PySem.W PyProof.Rows
set_option linter.unusedVariables false
set_option linter.unusedSimpArgs false
set_option autoImplicit false
set_option Elab.async false
set_option maxRecDepth 100000
set_option maxHeartbeats 1000000
namespace Mine
namespace L3
theorem callN_18 (m : Nat) (args : List V) (σ : St) : callN (m + 2) 18 args σ = runF full__law_det pl__law_det pc__law_det (ev__law_det (callN m)) args σ := rfl
def RowAt (σ : St) (v : V) (row : List Int) : Prop := ∃ j, v = .ref j ∧ σ[j]? = some (.list (row.map .int))
def RowsAt (σ : St) (k : Nat) (rows : List (List Int)) : Prop := ∃ vs, σ[k]? = some (.list vs) ∧ All2 (RowAt σ) vs rows
theorem intsV_map : ∀ is : List Int, intsV (is.map .int) = some is
  | [] => rfl
  | i :: r => by show (intsV (r.map .int)).map _ = _; rw [intsV_map r]; rfl
theorem intssV_ok {σ : St} : ∀ {vs : List V} {rows : List (List Int)}, All2 (RowAt σ) vs rows → intssV σ vs = some rows
  | [], [], _ => rfl
  | v :: vs, row :: rows, ⟨⟨j, e, h⟩, r⟩ => by
    subst e
    unfold intssV
    rw [h]
    dsimp only
    rw [intsV_map, Option.bind_some, intssV_ok r]
    rfl
def sgn (k : Nat) : Int := if k % 2 = 0 then 1 else -1
def det : Nat → List (List Int) → Int
  | 0, _ => 1
  | n + 1, rows => ((List.range (n + 1)).map fun k => sgn k * (rows.headD []).getD k 0 * det n (rows.tail.map fun row => row.take k ++ row.drop (k + 1))).sum
theorem RowAt.keep {σ σ' : St} {v : V} {row : List Int} (h : RowAt σ v row) {S : Nat → Prop} (K : Keep S σ σ') (hs : ∀ j, v = .ref j → ¬ S j) : RowAt σ' v row := by
  obtain ⟨j, e, h⟩ := h
  exact ⟨j, e, K.at_ _ _ h (.inr (hs j e))⟩
theorem RowAt.lt {σ : St} {v : V} {row : List Int} (h : RowAt σ v row) : ∀ j, v = .ref j → j < σ.length := by
  obtain ⟨j, e, h⟩ := h
  rintro j' rfl
  cases e
  exact lt_of_get h
theorem sum_succ (f : Nat → Int) (j : Nat) : ((List.range (j + 1)).map f).sum = ((List.range j).map f).sum + f j := by
  rw [List.range_succ, List.map_append, List.sum_append]
  simp
theorem det_ok : ∀ (n : Nat) (rows : List (List Int)), rows.length = n → (∀ row ∈ rows, row.length = n ∧ ∀ x ∈ row, -1000 < x ∧ x < 1000) → n ≤ 3 → ∀ (m : Nat) (σ : St) (k : Nat), RowsAt σ k rows →
    WR (callN (m + 2 * n + 2) 18 [.ref k] σ) fun v σ' => v = .int (det n rows) ∧ Keep (fun _ => False) σ σ'
  | 0, rows, hl, hr, _, m, σ, k, ⟨vs, h1, h2⟩ => by
    obtain rfl : rows = [] := List.eq_nil_of_length_eq_zero hl
    obtain rfl : vs = [] := by cases vs with
      | nil => rfl
      | cons v vs => exact h2.elim
    rw [callN_18 (m + 2 * 0)]
    refine WR.runF' (lo := [some (.ref k), none, none]) (cl := [σ.length]) (σ' := σ ++ [.cell none]) rfl rfl rfl rfl ?_
    unfold ev__law_det
    refine WS.ifT (WR.truE (WR.cmpE (WR.locE rfl (WR.listE (WR.nilS ⟨by simp, ?_⟩)))))
    have g1 : ((σ ++ [O.cell none]) ++ [.list []])[k]? = some (.list []) := get_app (get_app h1)
    have g2 := getElem?_len (σ ++ [O.cell none]) (.list [])
    have K : Keep (fun _ => False) σ ((σ ++ [O.cell none]) ++ [.list []]) := (Keep.app _ _ _).addF (Keep.app _ _ _)
    generalize (σ ++ [O.cell none]).length = e at *
    generalize (σ ++ [O.cell none]) ++ [.list []] = σ1 at *
    simp only [cmpV, g1, deq, g2, intsV, decide_true, Option.map_some, WR.ok, truV, true_and]
    exact WS.consAssoc.2 (WS.retS (WR.intE ⟨rfl, K⟩))
  | n + 1, rows, hl, hr, hn, m, σ, k, ⟨vs, h1, h2⟩ => by
    obtain ⟨r0, rest, rfl⟩ : ∃ r0 rest, rows = r0 :: rest := by cases rows with
      | nil => cases hl
      | cons a b => exact ⟨a, b, rfl⟩
    obtain ⟨v0, vr, rfl, ⟨j0, rfl, hj0⟩, hvr⟩ : ∃ v0 vr, vs = v0 :: vr ∧ RowAt σ v0 r0 ∧ All2 (RowAt σ) vr rest := by cases vs with
      | nil => exact h2.elim
      | cons a b => exact ⟨a, b, rfl, h2.1, h2.2⟩
    have hlr : rest.length = n := by simpa using hl
    have hr0 := hr r0 (List.mem_cons_self ..)
    have ih := det_ok n
    rw [show m + 2 * (n + 1) + 2 = (m + 2 * n + 2) + 2 by omega, callN_18 (m + 2 * n + 2)]
    refine WR.runF' (lo := [some (.ref k), none, none]) (cl := [σ.length]) (σ' := σ ++ [.cell none]) rfl rfl rfl rfl ?_
    unfold ev__law_det
    refine WS.ifF (WR.truE (WR.cmpE (WR.locE rfl (WR.listE (WR.nilS ⟨by simp, ?_⟩)))))
    have g1 : ((σ ++ [O.cell none]) ++ [.list []])[k]? = some (.list (.ref j0 :: vr)) := get_app (get_app h1)
    have g2 := getElem?_len (σ ++ [O.cell none]) (.list [])
    have g3 : ((σ ++ [O.cell none]) ++ [.list []])[σ.length]? = some (.cell none) := get_app (getElem?_len _ _)
    have K1 : Keep (fun _ => False) σ ((σ ++ [O.cell none]) ++ [.list []]) := (Keep.app _ _ _).addF (Keep.app _ _ _)
    have hc : k ≠ σ.length := Nat.ne_of_lt (lt_of_get h1)
    have hlt : ∀ i o, σ[i]? = some o → i ≠ σ.length := fun i o e => Nat.ne_of_lt (lt_of_get e)
    generalize (σ ++ [O.cell none]).length = e at *
    generalize (σ ++ [O.cell none]) ++ [.list []] = σ1 at *
    generalize hcc : σ.length = c at *
    have hd : deq k e σ1 = some false := by
      have a1 := intssV_ok (σ := σ1) (vs := .ref j0 :: vr) (rows := r0 :: rest) ⟨⟨j0, rfl, K1.getF hj0⟩, hvr.imp fun a b r => r.keep K1 (fun _ _ h => h)⟩
      unfold deq
      simp only [g1, g2]
      have a2 : intsV (V.ref j0 :: vr) = none := rfl
      simp only [a2, a1]
      show some (decide (r0 :: rest = [])) = some false
      rw [decide_eq_false (by simp)]
    simp only [cmpV, g1, hd, Option.map_some, WR.ok, truV, true_and]
    refine WS.nilCons.2 ?_
    refine WS.cons (R := fun lo σ' => σ1 ++ [.tup [.int 0, .int 1]] = σ' ∧ lo = [some (.ref k), some (.int 0), some (.int 1)]) ?_ ?_
    · have g4 := getElem?_len σ1 (.tup [.int 0, .int 1])
      simp only [asgTE, tupE, consS, nilS, intE, bindR, bindE, List.length_cons, List.length_nil, Nat.reduceLeDiff, if_true, tgT, g4, stores, tgL, setLo, List.set_cons_succ, List.set_cons_zero, Option.bind_some, Option.map_some]
      exact ⟨_, _, _, rfl, rfl, rfl, rfl⟩
    rintro lo _ ⟨rfl, rfl⟩
    have g5 := get_app (τ := [.tup [.int 0, .int 1]]) g3
    have K2 := K1.addF (Keep.app (fun _ => False) _ [.tup [.int 0, .int 1]])
    have k2 : (σ1 ++ [O.tup [.int 0, .int 1]])[k]? = some (.list (.ref j0 :: vr)) := get_app g1
    generalize σ1 ++ [O.tup [.int 0, .int 1]] = σ2 at *
    have k3 := getElem?_len σ2 (.rng 0 ((n + 1 : Nat) : Int))
    have K3 := K2.addF (Keep.app (fun _ => False) _ [.rng 0 ((n + 1 : Nat) : Int)])
    have c3 := get_app (τ := [.rng 0 ((n + 1 : Nat) : Int)]) g5
    have hvl : ((V.ref j0 :: vr).length : Int) = ((n + 1 : Nat) : Int) := by rw [List.length_cons, hvr.length, hlr]
    refine WS.consB ?_
    refine WS.forS (a := .ref σ2.length) (σ1 := σ2 ++ [.rng 0 ((n + 1 : Nat) : Int)]) (kd := .rng 0) (len := n + 1) ?_ (kd_rng k3 rfl (small_of (by omega) (by omega)) (by omega)) (.inl rfl)
      (fun j lo σ' => Keep (· = c) (σ2 ++ [.rng 0 ((n + 1 : Nat) : Int)]) σ' ∧ (∃ o, σ'[c]? = some (.cell o)) ∧ lo = [some (.ref k), some (.int ((List.range j).map fun k => sgn k * r0.getD k 0 * det n (rest.map fun row => row.take k ++ row.drop (k + 1))).sum), some (.int (sgn j))]) ?_ ?_ ?_ ?_
    · simp only [biE, consS, nilS, locE, List.getElem?_cons_zero, Option.join_some, Option.map_some, bindR, lenV, k2, rangeV, hvl]
    · exact ⟨Keep.refl _ _, ⟨_, c3⟩, rfl⟩
    · rintro j lo σ' ⟨K, -, -⟩
      exact kd_rng (K.getX k3 rfl) rfl (small_of (by omega) (by omega)) (by omega)
    · rintro j lo σ' hj ⟨K, ⟨o, ho⟩, rfl⟩
      generalize σ2.length = rg at *
      generalize σ2 ++ [.rng 0 ((n + 1 : Nat) : Int)] = σ3 at *
      refine ⟨.int j, _, σ'.set c (.cell (some (.int j))), ?_, tgC_eq rfl ho, ?_⟩
      · rw [it_rng (K.getX k3 rfl), Int.zero_add]
      have K4 : Keep (· = c) σ3 (σ'.set c (.cell (some (.int j)))) := K.trans (Keep.set (S := (· = c)) ho rfl rfl) (fun _ _ h => h)
      have c4 := get_set (o' := .cell (some (.int j))) ho
      generalize σ'.set c (.cell (some (.int j))) = σ4 at *
      -- whatever was there at the call
      have keep4 : ∀ i o, σ[i]? = some o → σ4[i]? = some o := fun i o e => K4.get (K3.getF e) (hlt i o e)
      have hjr : (r0.map V.int)[j]? = some (.int (r0.getD j 0)) := by
        rw [List.getElem?_map, List.getElem?_eq_getElem (by omega), List.getD_eq_getElem?_getD, List.getElem?_eq_getElem (by omega)]; rfl
      have hmem : r0.getD j 0 ∈ r0 := by
        rw [List.getD_eq_getElem?_getD, List.getElem?_eq_getElem (by omega)]; exact List.getElem_mem _
      have hb := hr0.2 _ hmem
      refine WS.augL (a := .int _) rfl ?_
      refine WR.binE (WR.binE (WR.locE rfl (WR.subE (WR.subE (WR.locE rfl (WR.intE (WR.getL (keep4 _ _ h1) 0 rfl rfl ?_)))))))
      refine WR.celE rfl c4 (WR.getL (keep4 _ _ hj0) j rfl hjr ?_)
      have hsg : small (sgn j) = true := by unfold sgn; split <;> rfl
      refine WR.mul (by rw [hsg]; rfl) ?_
      have hsm : small (sgn j * r0.getD j 0) = true := by
        unfold sgn; split
        · rw [Int.one_mul]; exact small_of (by omega) (by omega)
        · rw [Int.neg_one_mul]; exact small_of (by omega) (by omega)
      -- the smaller table
      have cm : cutV (V.ref j0 :: vr) (some 1) none = vr := by
        unfold cutV kms_lo kms_hi
        simp
      have sl : ∃ σ5, sliceE T (locE 0) (some (intE 1)) none ⟨[some (.ref k), some (.int ((List.range j).map fun k => sgn k * r0.getD k 0 * det n (rest.map fun row => row.take k ++ row.drop (k + 1))).sum), some (.int (sgn j))], [c]⟩ σ4 = some (.ok (.ref σ4.length) σ5) ∧ σ5 = σ4 ++ [.list vr] := by
        refine ⟨_, ?_, rfl⟩
        simp only [sliceE, locE, partE, intE, bindR, List.getElem?_cons_zero, Option.join_some, Option.map_some, sliceV, keep4 _ _ h1, partV, Option.bind_some, cm]
      obtain ⟨σ5, sl1, sl2⟩ := sl
      have K5 : Keep (fun _ => False) σ4 σ5 := sl2 ▸ Keep.app _ _ _
      have l5 : σ5[σ4.length]? = some (.list vr) := sl2 ▸ getElem?_len _ _
      refine WR.callE (WR.consS (WR.compE (σ1 := σ5) (kd := .list) (len := vr.length) sl1 (kd_list l5) (.inl rfl)
        (fun i lo σ' ys => Keep (fun _ => False) σ5 σ' ∧ lo.length = 1 ∧ All2 (RowAt σ') ys ((rest.take i).map fun row => row.take j ++ row.drop (j + 1))) ?_ ?_ ?_ ?_))
      · exact ⟨by simpa using Keep.refl _ _, rfl, trivial⟩
      · rintro i lo σ' ys ⟨K, -, -⟩
        exact kd_list (K.getF l5)
      · rintro i lo σ' ys hi ⟨K, hlo, hys⟩
        have hir : i < rest.length := by rw [← hvr.length]; exact hi
        obtain ⟨v, hv⟩ : ∃ v, vr[i]? = some v := ⟨_, List.getElem?_eq_getElem hi⟩
        obtain ⟨row, hrow, ji, rfl, hji⟩ := hvr.get hv
        have hrm : row ∈ r0 :: rest := List.mem_cons_of_mem _ (List.mem_of_getElem? hrow)
        have hrl := (hr row hrm).1
        obtain ⟨x0, rfl⟩ : ∃ x0, lo = [x0] := List.length_eq_one_iff.1 hlo
        refine ⟨?_, .ref ji, [some (.ref ji)], σ', ?_, rfl, ?_⟩
        · rw [hys.length, List.length_map, List.length_take]; omega
        · rw [it_list (K.getF l5), hv]
        refine WR.ok.2 ?_
        rw [if_pos rfl]
        have c6 : σ'[c]? = some (.cell (some (.int j))) := K.getF (K5.getF c4)
        have j6 : σ'[ji]? = some (.list (row.map .int)) := K.getF (K5.getF (keep4 _ _ hji))
        have cu1 : cutV (row.map V.int) none (some (j : Int)) = (row.take j).map V.int := by
          unfold cutV kms_lo kms_hi
          dsimp only
          rw [if_neg (by omega)]
          simp
        have cu2 : cutV (row.map V.int) (some ((j : Int) + 1)) none = (row.drop (j + 1)).map V.int := by
          unfold cutV kms_lo kms_hi
          dsimp only
          rw [if_neg (by omega)]
          simp only [List.length_map, show ((j : Int) + 1).toNat = j + 1 by omega, show min (j + 1) row.length = j + 1 by omega]
          rw [List.take_of_length_le (by simp), List.map_drop]
        refine WR.binE (WR.sliceE (WR.locE rfl (WR.partN ?_)))
        refine WR.celE rfl c6 (WR.slice j6 rfl rfl ?_)
        rw [cu1]
        have j7 := get_app (τ := [.list ((row.take j).map .int)]) j6
        have c7 := get_app (τ := [.list ((row.take j).map .int)]) c6
        have l7 := getElem?_len σ' (.list ((row.take j).map .int))
        have K7 := K.addF (Keep.app (fun _ => False) _ [.list ((row.take j).map .int)])
        have y7 := hys.imp fun a b (r : RowAt σ' a b) => r.keep (Keep.app (fun _ => False) _ [.list ((row.take j).map .int)]) (fun _ _ h => h)
        generalize σ'.length = p7 at *
        generalize σ' ++ [.list ((row.take j).map .int)] = σ7 at *
        refine WR.sliceE (WR.locE rfl ?_)
        show WR (partE (some _) _ _) _
        refine WR.binE (WR.celE rfl c7 (WR.intE (WR.add (WR.partN (WR.slice j7 rfl rfl ?_)))))
        rw [cu2]
        have l8 := get_app (τ := [.list ((row.drop (j + 1)).map .int)]) l7
        have l8' := getElem?_len σ7 (.list ((row.drop (j + 1)).map .int))
        have K8 := K7.addF (Keep.app (fun _ => False) _ [.list ((row.drop (j + 1)).map .int)])
        have y8 := y7.imp fun a b (r : RowAt σ7 a b) => r.keep (Keep.app (fun _ => False) _ [.list ((row.drop (j + 1)).map .int)]) (fun _ _ h => h)
        generalize σ7.length = p8 at *
        generalize σ7 ++ [.list ((row.drop (j + 1)).map .int)] = σ8 at *
        refine WR.addL l8 l8' (by simp only [List.length_map, List.length_take, List.length_drop]; omega) ?_
        rw [← List.map_append]
        have K9 := Keep.app (fun _ => False) σ8 [.list ((row.take j ++ row.drop (j + 1)).map .int)]
        refine ⟨K8.addF K9, rfl, ?_⟩
        have et : rest.take (i + 1) = rest.take i ++ [row] := by
          rw [List.take_succ_eq_append_getElem hir]
          rw [List.getElem?_eq_getElem hir] at hrow
          cases hrow; rfl
        have em : (rest.take (i + 1)).map (fun row => row.take j ++ row.drop (j + 1)) = (rest.take i).map (fun row => row.take j ++ row.drop (j + 1)) ++ [row.take j ++ row.drop (j + 1)] := by rw [et, List.map_append]; rfl
        rw [em]
        exact All2.append (y8.imp fun a b r => r.keep K9 (fun _ _ h => h)) (show All2 _ [_] [_] from ⟨⟨_, rfl, getElem?_len _ _⟩, trivial⟩)
      · rintro lo σ' ys ⟨K, -, hys⟩
        refine WR.nilS ?_
        have K9 := Keep.app (fun _ => False) σ' [.list ys]
        rw [List.take_of_length_le (by rw [hvr.length]; exact Nat.le_refl _)] at hys
        refine (ih (rest.map fun row => row.take j ++ row.drop (j + 1)) (by simp [hlr]) ?_ (by omega) m _ _ ⟨ys, getElem?_len _ _, hys.imp fun a b r => r.keep K9 (fun _ _ h => h)⟩).mono ?_
        · intro row hrow
          obtain ⟨row', hm, rfl⟩ := List.mem_map.1 hrow
          have := hr row' (List.mem_cons_of_mem _ hm)
          refine ⟨?_, fun x hx => ?_⟩
          · simp only [List.length_append, List.length_take, List.length_drop]; omega
          · rcases List.mem_append.1 hx with hx | hx
            · exact this.2 x (List.mem_of_mem_take hx)
            · exact this.2 x (List.mem_of_mem_drop hx)
        rintro v σ9 ⟨rfl, K10⟩
        refine WR.mul (by rw [hsm]; rfl) ?_
        refine WR.ok.2 ?_
        have K11 := ((K5.addF K).addF K9).addF K10
        have K12 := K4.addF K11
        refine WS.asgL (WR.negE (WR.locE rfl (WR.ok.2 (WS.nil.2 ?_))))
        refine ⟨K12, ⟨_, K11.getF c4⟩, ?_⟩
        rw [sum_succ]
        have hs : -sgn j = sgn (j + 1) := by
          unfold sgn
          rcases Nat.mod_two_eq_zero_or_one j with h | h
          · rw [if_pos h, if_neg (by omega)]
          · rw [if_neg (by omega), if_pos (by omega)]; rfl
        simp only [setLo, List.set_cons_succ, List.set_cons_zero, hs]
    · rintro lo σ' ⟨K, -, rfl⟩
      refine WS.retS (WR.locE rfl ⟨rfl, ?_⟩)
      exact ((K3.weak (S' := (· = c)) (fun _ h => h.elim)).then K).of_new (fun i hi e => by have : i = c := e; omega)
end L3
end Mine

end
noncomputable section
open PySem PySem.W PyProof.Rows
set_option linter.unusedVariables false
set_option linter.unusedSimpArgs false
set_option autoImplicit false
set_option Elab.async false
set_option maxRecDepth 100000
set_option maxHeartbeats 1000000
namespace Mine
namespace L3
theorem lexB_iff {p q : Int × Int} : lexB p q = true ↔ p.1 < q.1 ∨ (p.1 = q.1 ∧ p.2 < q.2) := by
  unfold lexB
  split
  · rename_i h
    simp only [decide_eq_true_eq]
    constructor
    · exact .inl
    · rintro (h1 | ⟨h1, -⟩)
      · exact h1
      · exact (h h1).elim
  · rename_i h
    have h : p.1 = q.1 := by omega
    simp only [decide_eq_true_eq, h, true_and]
    omega
theorem place_above (it : Int × Int) (ks : List (Int × Int)) : ∀ n i, place it ks n ≤ i → i < n → lexB it (ks.getD i (0, 0)) = true
  | 0, i, _, h => (Nat.not_lt_zero _ h).elim
  | n + 1, i, h, h' => by
    unfold place at h
    split at h
    · rename_i e
      rcases Nat.lt_or_ge i n with h2 | h2
      · exact place_above it ks n i h h2
      · obtain rfl : i = n := by omega
        exact e
    · omega
theorem place_below (it : Int × Int) (ks : List (Int × Int)) : ∀ n, 0 < place it ks n → lexB it (ks.getD (place it ks n - 1) (0, 0)) = false
  | 0, h => (Nat.lt_irrefl _ h).elim
  | n + 1, h => by
    unfold place at h ⊢
    split at h
    · rename_i e
      rw [if_pos e]
      exact place_below it ks n h
    · rename_i e
      rw [if_neg e]
      simpa using e
def Srt (its : List Item) : Prop := its.Pairwise fun p q => lexB (key p) (key q) = true
theorem ins_sorted {it : Item} {its : List Item} (h : Srt its) (hn : ∀ p ∈ its, p.2.id ≠ it.2.id) : Srt (ins it its) := by
  have hp := place_le (key it) (its.map key) its.length
  have ha := place_above (key it) (its.map key) its.length
  have hb := place_below (key it) (its.map key) its.length
  unfold ins
  generalize place (key it) (its.map key) its.length = j at *
  have hget : ∀ i (hi : i < its.length), (its.map key).getD i (0, 0) = key its[i] := by
    intro i hi
    simp [List.getD_eq_getElem?_getD, hi]
  have hs := List.pairwise_iff_getElem.1 h
  unfold Srt
  rw [List.pairwise_append]
  refine ⟨h.sublist (List.take_sublist _ _), ?_, ?_⟩
  · rw [List.pairwise_cons]
    refine ⟨?_, h.sublist (List.drop_sublist _ _)⟩
    intro p hp'
    obtain ⟨i, hi, rfl⟩ := List.mem_iff_getElem.1 hp'
    rw [List.getElem_drop]
    have hi' : j + i < its.length := by rw [List.length_drop] at hi; omega
    have := ha (j + i) (by omega) hi'
    rwa [hget _ hi'] at this
  · intro p hp' q hq
    obtain ⟨i, hi, rfl⟩ := List.mem_iff_getElem.1 hp'
    rw [List.length_take] at hi
    rw [List.getElem_take]
    have h1 : lexB (key its[i]) (key it) = true := by
      have h2 := hb (by omega)
      rw [hget _ (by omega)] at h2
      have h3 := hn its[j - 1] (List.getElem_mem _)
      have h4 : lexB (key its[j - 1]) (key it) = true := by
        rw [lexB_iff]
        have : ¬ (lexB (key it) (key its[j - 1]) = true) := by rw [h2]; simp
        rw [lexB_iff] at this
        simp only [key] at this ⊢
        omega
      rcases Nat.lt_or_ge i (j - 1) with h5 | h5
      · have h6 := hs i (j - 1) (by omega) (by omega) h5
        rw [lexB_iff] at *
        omega
      · obtain rfl : i = j - 1 := by omega
        exact h4
    rcases List.mem_cons.1 hq with rfl | hq
    · exact h1
    · obtain ⟨k, hk, rfl⟩ := List.mem_iff_getElem.1 hq
      rw [List.length_drop] at hk
      rw [List.getElem_drop]
      exact hs i (j + k) (by omega) (by omega) (by omega)
/-- a round: the places of each stream's turns, in order -/
structure Round (ks : List (Int × Int)) (P : Int) (ln : Int → Nat) (R : List (Int × Int)) : Prop where
  nd : (ks.map (·.1)).Nodup
  wpos : ∀ k ∈ ks, 0 < k.2
  per : ∀ k ∈ ks, P * k.2 = 256 * (ln k.1 : Int)
  srt : R.Pairwise fun p q => lexB p q = true
  fil : ∀ k ∈ ks, R.filter (fun p => p.2 == k.1) = (List.range (ln k.1)).map fun j : Nat => (256 * (j : Int) / k.2, k.1)
  ids : ∀ p ∈ R, ∃ k ∈ ks, k.1 = p.2
  ne : 0 < R.length
def cnt (R : List (Int × Int)) (r : Nat) (i : Int) : Nat := ((R.take r).filter fun p => p.2 == i).length
def Val (P : Int) (R : List (Int × Int)) (q r : Nat) (p : Item) : Prop := p.1 = P * q + 256 * (cnt R r p.2.id : Int) / p.2.w ∧ p.2.df = 256 * (cnt R r p.2.id : Int) % p.2.w
structure Turn (ks : List (Int × Int)) (P : Int) (R : List (Int × Int)) (n : Nat) (its : List Item) : Prop where
  srt : Srt its
  mem : (its.map fun p => (p.2.id, p.2.w)).Perm ks
  val : ∀ p ∈ its, Val P R (n / R.length) (n % R.length) p
section
variable {ks : List (Int × Int)} {P : Int} {ln : Int → Nat} {R : List (Int × Int)}
theorem Round.split (h : Round ks P ln R) {k : Int × Int} (hk : k ∈ ks) (r : Nat) : (R.drop r).filter (fun p => p.2 == k.1) = ((List.range (ln k.1)).map fun j : Nat => (256 * (j : Int) / k.2, k.1)).drop (cnt R r k.1) ∧ cnt R r k.1 ≤ ln k.1 := by
  have h1 := h.fil k hk
  rw [← List.take_append_drop r R, List.filter_append] at h1
  have h2 := congrArg List.length h1
  simp only [List.length_append, List.length_map, List.length_range] at h2
  unfold cnt
  refine ⟨?_, by omega⟩
  rw [← h1, List.drop_left]
theorem Round.cnt_all (h : Round ks P ln R) {k : Int × Int} (hk : k ∈ ks) : cnt R R.length k.1 = ln k.1 := by
  unfold cnt
  rw [List.take_length, h.fil k hk, List.length_map, List.length_range]
theorem cnt_succ {r : Nat} (hr : r < R.length) (i : Int) : cnt R (r + 1) i = cnt R r i + if R[r].2 = i then 1 else 0 := by
  unfold cnt
  rw [List.take_succ_eq_append_getElem hr, List.filter_append, List.length_append]
  by_cases e : R[r].2 = i
  · simp [e]
  · simp [e]
/-- the entry told next is that of the next place of its stream -/
theorem Round.at_ (h : Round ks P ln R) {r : Nat} (hr : r < R.length) {k : Int × Int} (hk : k ∈ ks) (e : k.1 = R[r].2) : R[r].1 = 256 * (cnt R r k.1 : Int) / k.2 ∧ cnt R r k.1 < ln k.1 := by
  obtain ⟨h1, h2⟩ := h.split hk r
  rw [List.drop_eq_getElem_cons hr, List.filter_cons_of_pos (by simp [e])] at h1
  have h3 := congrArg List.length h1
  simp only [List.length_cons, List.length_drop, List.length_map, List.length_range] at h3
  have h4 : cnt R r k.1 < ln k.1 := by omega
  refine ⟨?_, h4⟩
  have h5 := congrArg (fun l => l[0]?) h1
  simp only [List.getElem?_cons_zero, List.getElem?_drop, Nat.add_zero, List.getElem?_map, List.getElem?_range h4, Option.map_some, Option.some.injEq] at h5
  rw [h5]
theorem Round.low (h : Round ks P ln R) {r : Nat} (hr : r < R.length) {k : Int × Int} (hk : k ∈ ks) (e : k.1 ≠ R[r].2) (hc : cnt R r k.1 < ln k.1) : lexB R[r] (256 * (cnt R r k.1 : Int) / k.2, k.1) = true := by
  obtain ⟨h1, h2⟩ := h.split hk r
  have h3 : (256 * (cnt R r k.1 : Int) / k.2, k.1) ∈ (R.drop r).filter (fun p => p.2 == k.1) := by
    rw [h1, List.mem_iff_getElem?]
    refine ⟨0, ?_⟩
    simp only [List.getElem?_drop, Nat.add_zero, List.getElem?_map, List.getElem?_range hc, Option.map_some]
  have h4 := (List.mem_filter.1 h3).1
  rw [List.drop_eq_getElem_cons hr] at h4
  rcases List.mem_cons.1 h4 with h4 | h4
  · exact (e (congrArg Prod.snd h4)).elim
  · have h5 := h.srt
    rw [← List.take_append_drop r R, List.drop_eq_getElem_cons hr, List.pairwise_append] at h5
    exact (List.pairwise_cons.1 h5.2.1).1 _ h4
theorem div_lt_of {a w P : Int} {c l : Nat} (hw : 0 < w) (hP : P * w = 256 * (l : Int)) (hc : c < l) : 256 * (c : Int) / w < P := by
  apply Int.ediv_lt_of_lt_mul hw
  rw [hP]; omega
theorem turn_next (h : Round ks P ln R) {n : Nat} {its : List Item} (t : Turn ks P R n its) :
    ∃ l x rest, its = (l, x) :: rest ∧ (R[n % R.length]?).map (·.2) = some x.id ∧ (x.id, x.w) ∈ ks ∧ Turn ks P R (n + 1) (ins (Item.step (l, x)) rest) := by
  have hr : n % R.length < R.length := Nat.mod_lt _ h.ne
  generalize hrr : n % R.length = r at *
  generalize hq : n / R.length = q at *
  obtain ⟨k, hk, hk'⟩ := h.ids R[r] (List.getElem_mem hr)
  obtain ⟨tS, tM, tV⟩ := t
  rw [hrr, hq] at tV
  -- the item that is due
  have hm := tM.symm.subset hk
  obtain ⟨p, hp, hpk⟩ := List.mem_map.1 hm
  have hpi : p.2.id = k.1 := congrArg Prod.fst hpk
  have hpw : p.2.w = k.2 := congrArg Prod.snd hpk
  cases its with
  | nil => cases hp
  | cons y rest =>
    obtain ⟨l, x⟩ := y
    have hxk : (x.id, x.w) ∈ ks := tM.subset (List.mem_map.2 ⟨(l, x), List.mem_cons_self .., rfl⟩)
    have vx := tV (l, x) (List.mem_cons_self ..)
    have vp := tV p hp
    obtain ⟨a1, a2⟩ := h.at_ hr hk hk'
    have hid : x.id = R[r].2 := by
      refine Classical.byContradiction fun hne => ?_
      have hlow : lexB (key p) (key (l, x)) = true := by
        obtain ⟨-, b2⟩ := h.split hxk r
        unfold Val at vp vx
        rw [hpi, hpw] at vp
        dsimp only at vx b2
        rw [lexB_iff]
        simp only [key]
        rcases Nat.lt_or_ge (cnt R r x.id) (ln x.id) with hc | hc
        · have := h.low hr hxk hne hc
          rw [lexB_iff] at this
          dsimp only at this
          rw [vp.1, vx.1, ← a1, hpi, hk']
          omega
        · have e1 : cnt R r x.id = ln x.id := by omega
          have hw := h.wpos _ hxk
          have e2 : 256 * (ln x.id : Int) / x.w = P := by
            rw [← h.per _ hxk]
            exact Int.mul_ediv_cancel _ (by dsimp only at hw; omega)
          have e3 := div_lt_of (a := 0) (h.wpos _ hk) (h.per _ hk) a2
          rw [vp.1, vx.1, e1, e2]
          omega
      rcases List.mem_cons.1 hp with e | e
      · rw [e] at hpi
        exact hne (by rw [← hk', ← hpi])
      · have := (List.pairwise_cons.1 tS).1 p e
        rw [lexB_iff] at this hlow
        omega
    refine ⟨l, x, rest, rfl, ?_, hxk, ?_⟩
    · rw [List.getElem?_eq_getElem hr, Option.map_some, hid]
    have nd : (((l, x) :: rest).map (fun p : Item => p.2.id)).Nodup := by
      have := (tM.map (·.1)).nodup_iff.2 h.nd
      simpa [List.map_map, Function.comp_def] using this
    have hne : ∀ b ∈ rest, b.2.id ≠ x.id := by
      intro b hb e
      rw [List.map_cons, List.nodup_cons] at nd
      exact nd.1 (e ▸ List.mem_map.2 ⟨b, hb, rfl⟩)
    have hw : 0 < x.w := h.wpos _ hxk
    -- values behind the turn, by the count of one more
    have v1 : ∀ b ∈ ins (Item.step (l, x)) rest, Val P R q (r + 1) b := by
      intro b hb
      rcases (ins_mem b).1 hb with rfl | hb
      · unfold Val at vx ⊢
        dsimp only [Item.step, Kid.step] at vx ⊢
        rw [cnt_succ hr, if_pos hid.symm, Int.fdiv_eq_ediv_of_nonneg _ (Int.le_of_lt hw), Int.fmod_eq_emod_of_nonneg _ (Int.le_of_lt hw)]
        have e1 := Int.mul_ediv_add_emod (256 * (cnt R r x.id : Int)) x.w
        rw [vx.1, vx.2]
        generalize 256 * (cnt R r x.id : Int) / x.w = D at *
        generalize hM : 256 * (cnt R r x.id : Int) % x.w = M at *
        have e2 : 256 * ((cnt R r x.id + 1 : Nat) : Int) = (256 + M) + x.w * D := by
          have : ((cnt R r x.id + 1 : Nat) : Int) = (cnt R r x.id : Int) + 1 := by omega
          rw [this]; omega
        rw [e2, Int.add_mul_ediv_left _ _ (by omega), Int.add_mul_emod_self_left]
        exact ⟨by omega, rfl⟩
      · have := tV b (List.mem_cons_of_mem _ hb)
        unfold Val at this ⊢
        rw [cnt_succ hr, if_neg (fun e => hne b hb (by rw [hid, e]))]
        exact this
    refine ⟨ins_sorted (List.pairwise_cons.1 tS).2 fun b hb => by exact hne b hb, ?_, ?_⟩
    · have p1 := (ins_perm (Item.step (l, x)) rest).map fun p : Item => (p.2.id, p.2.w)
      exact p1.trans tM
    · intro b hb
      have v := v1 b hb
      rcases Nat.lt_or_ge (r + 1) R.length with h1 | h1
      · have e1 : (n + 1) / R.length = q ∧ (n + 1) % R.length = r + 1 := by
          have := Nat.div_add_mod n R.length
          rw [hrr, hq] at this
          constructor
          · rw [← this, Nat.add_assoc, Nat.mul_add_div h.ne, Nat.div_eq_of_lt h1]; omega
          · rw [← this, Nat.add_assoc, Nat.mul_add_mod, Nat.mod_eq_of_lt h1]
        rw [e1.1, e1.2]
        exact v
      · have hr1 : r + 1 = R.length := by omega
        have e1 : (n + 1) / R.length = q + 1 ∧ (n + 1) % R.length = 0 := by
          have := Nat.div_add_mod n R.length
          rw [hrr, hq] at this
          constructor
          · rw [← this, Nat.add_assoc, Nat.mul_add_div h.ne, hr1, Nat.div_self h.ne]
          · rw [← this, Nat.add_assoc, Nat.mul_add_mod, hr1, Nat.mod_self]
        rw [e1.1, e1.2]
        have hbk : (b.2.id, b.2.w) ∈ ks := by
          have p1 := ((ins_perm (Item.step (l, x)) rest).map fun p : Item => (p.2.id, p.2.w)).trans tM
          exact p1.subset (List.mem_map.2 ⟨b, hb, rfl⟩)
        have hbw := h.wpos _ hbk
        have hbp := h.per _ hbk
        dsimp only at hbw hbp
        unfold Val at v ⊢
        rw [hr1, h.cnt_all hbk] at v
        dsimp only at v
        rw [← hbp, Int.mul_ediv_cancel _ (by omega), Int.mul_emod_left] at v
        have : cnt R 0 b.2.id = 0 := rfl
        rw [this, v.1, v.2]
        simp only [Int.natCast_add, Int.natCast_one, Int.mul_add, Int.mul_one, Int.natCast_zero, Int.mul_zero, Int.zero_ediv, Int.zero_emod, Int.add_zero, and_self]
end
end L3
end Mine

end
noncomputable section
open PySem PySem.W PyProof.Rows
set_option linter.unusedVariables false
set_option linter.unusedSimpArgs false
set_option autoImplicit false
set_option Elab.async false
set_option maxRecDepth 100000
set_option maxHeartbeats 1000000
namespace Mine
namespace L3
def lt3 (a b c : Bool) (i j : Nat) : Bool := match i, j with
  | 0, 1 => a
  | 1, 0 => !a
  | 0, 2 => b
  | 2, 0 => !b
  | 1, 2 => c
  | 2, 1 => !c
  | _, _ => false
theorem evT_congr {α : Type} {n : Nat} {lt lt' : Nat → Nat → Bool} (h : ∀ i j, i < n → j < n → lt' i j = lt i j) : ∀ t : KasT α, evOk n lt t = true → evT lt' t = evT lt t ∧ evOk n lt' t = true
  | .ret a, _ => ⟨rfl, rfl⟩
  | .ask i j k, e => by
    unfold evOk at e
    simp only [Bool.and_eq_true, decide_eq_true_eq] at e
    have e1 := h i j e.1.1 e.1.2
    have ih := evT_congr h (k (lt i j)) e.2
    unfold evT evOk
    rw [e1]
    simp only [ih.1, ih.2, e.1.1, e.1.2, decide_true, Bool.and_self, and_self]
def good3 (a b c : Bool) : Bool := let l := (evT (lt3 a b c) (kas_sort 3)).toList
  evOk 3 (lt3 a b c) (kas_sort 3) && (((a && c && !b) || (!a && !c && b)) || (l == [0,1,2] && a && c && b) || (l == [0,2,1] && b && !c && a) || (l == [1,0,2] && !a && b && c) || (l == [1,2,0] && c && !b && !a) || (l == [2,0,1] && !b && a && !c) || (l == [2,1,0] && !c && !a && !b))
theorem good3_all : ∀ a b c, good3 a b c = true := by decide +kernel
def good2 (a : Bool) : Bool := let l := (evT (lt3 a true true) (kas_sort 2)).toList
  evOk 2 (lt3 a true true) (kas_sort 2) && ((l == [0,1] && a) || (l == [1,0] && !a))
theorem good2_all : ∀ a, good2 a = true := by decide +kernel
theorem lexLt_eq : lexLt = lexB := by
  funext p q
  unfold lexLt lexB
  by_cases h : p.1 = q.1
  · simp [h]
  · simp [h]
theorem lexB_not {p q : Int × Int} (h : p ≠ q) : lexB q p = !lexB p q := by
  have h1 : p.1 ≠ q.1 ∨ p.2 ≠ q.2 := by
    refine Classical.byContradiction fun hn => h ?_
    obtain ⟨a, b⟩ := p
    obtain ⟨c, d⟩ := q
    simp only [Prod.mk.injEq]
    simp only [not_or, Classical.not_not] at hn
    exact hn
  rw [Bool.eq_iff_iff, Bool.not_eq_true', ← Bool.not_eq_true, lexB_iff, lexB_iff]
  omega
theorem lexB_self (p : Int × Int) : lexB p p = false := by
  rw [← Bool.not_eq_true, lexB_iff]; omega
theorem lexB_trans {p q r : Int × Int} (h : lexB p q = true) (h' : lexB q r = true) : lexB p r = true := by
  rw [lexB_iff] at *; omega
def sorted (ps : List (Int × Int)) : List (Int × Int) := (sortOrd ps).map fun i => ps.getD i (0, 0)
theorem sort3 {x y z : Int × Int} (h1 : x ≠ y) (h2 : x ≠ z) (h3 : y ≠ z) :
    evOk 3 (pairLt [x, y, z]) (kas_sort 3) = true ∧ (sortOrd [x, y, z]).length = 3 ∧ (∀ i ∈ sortOrd [x, y, z], i < 3) ∧ (sorted [x, y, z]).Perm [x, y, z] ∧ (sorted [x, y, z]).Pairwise fun p q => lexB p q = true := by
  have hc : ∀ i j, i < 3 → j < 3 → pairLt [x, y, z] i j = lt3 (lexB x y) (lexB x z) (lexB y z) i j := by
    intro i j hi hj
    unfold pairLt
    rw [lexLt_eq]
    match i, j, hi, hj with
    | 0, 0, _, _ => exact lexB_self x
    | 0, 1, _, _ => rfl
    | 0, 2, _, _ => rfl
    | 1, 0, _, _ => exact lexB_not h1
    | 1, 1, _, _ => exact lexB_self y
    | 1, 2, _, _ => rfl
    | 2, 0, _, _ => exact lexB_not h2
    | 2, 1, _, _ => exact lexB_not h3
    | 2, 2, _, _ => exact lexB_self z
  have hg := good3_all (lexB x y) (lexB x z) (lexB y z)
  unfold good3 at hg
  simp only [Bool.and_eq_true] at hg
  obtain ⟨hg1, hg2⟩ := hg
  obtain ⟨e1, e2⟩ := evT_congr hc _ hg1
  have e3 : sortOrd [x, y, z] = (evT (lt3 (lexB x y) (lexB x z) (lexB y z)) (kas_sort 3)).toList := by
    show (evT (pairLt [x, y, z]) (kas_sort 3)).toList = _
    rw [e1]
  have n1 := lexB_not h1
  have n2 := lexB_not h2
  have n3 := lexB_not h3
  refine ⟨e2, ?_⟩
  unfold sorted
  rw [e3]
  generalize (evT (lt3 (lexB x y) (lexB x z) (lexB y z)) (kas_sort 3)).toList = l at *
  have t1 : lexB x y = true → lexB y z = true → lexB x z = true := lexB_trans
  have t2 : lexB z y = true → lexB y x = true → lexB z x = true := lexB_trans
  rw [n1, n2, n3] at t2
  cases ha : lexB x y <;> cases hb : lexB x z <;> cases hd : lexB y z <;> rw [ha, hb, hd] at hg2 <;> rw [ha] at n1 <;> rw [hb] at n2 <;> rw [hd] at n3 <;> rw [ha, hb, hd] at t1 t2 <;> simp at t1 t2 <;> simp at hg2 <;> subst hg2 <;> simp only [Bool.not_true, Bool.not_false] at n1 n2 n3
  · exact ⟨rfl, by simp, (List.reverse_perm [x, y, z]), by simp [n1, n2, n3]⟩
  · refine ⟨rfl, by simp, ?_, by simp [n1, n2, hd]⟩
    show [y, z, x].Perm [x, y, z]
    exact (List.perm_append_comm (l₁ := [y, z]) (l₂ := [x]))
  · refine ⟨rfl, by simp, ?_, by simp [n1, hb, hd]⟩
    exact List.Perm.swap ..
  · refine ⟨rfl, by simp, ?_, by simp [ha, n2, n3]⟩
    show [z, x, y].Perm [x, y, z]
    exact (List.perm_append_comm (l₁ := [z]) (l₂ := [x, y]))
  · refine ⟨rfl, by simp, ?_, by simp [ha, hb, n3]⟩
    exact (List.Perm.swap ..).cons _
  · exact ⟨rfl, by simp, .refl _, by simp [ha, hb, hd]⟩
theorem sort2 {x y : Int × Int} (h1 : x ≠ y) : evOk 2 (pairLt [x, y]) (kas_sort 2) = true ∧ (sortOrd [x, y]).length = 2 ∧ (∀ i ∈ sortOrd [x, y], i < 2) ∧ (sorted [x, y]).Perm [x, y] ∧ (sorted [x, y]).Pairwise fun p q => lexB p q = true := by
  have hc : ∀ i j, i < 2 → j < 2 → pairLt [x, y] i j = lt3 (lexB x y) true true i j := by
    intro i j hi hj
    unfold pairLt
    rw [lexLt_eq]
    match i, j, hi, hj with
    | 0, 0, _, _ => exact lexB_self x
    | 0, 1, _, _ => rfl
    | 1, 0, _, _ => exact lexB_not h1
    | 1, 1, _, _ => exact lexB_self y
  have hg := good2_all (lexB x y)
  unfold good2 at hg
  simp only [Bool.and_eq_true] at hg
  obtain ⟨hg1, hg2⟩ := hg
  obtain ⟨e1, e2⟩ := evT_congr hc _ hg1
  have e3 : sortOrd [x, y] = (evT (lt3 (lexB x y) true true) (kas_sort 2)).toList := by
    show (evT (pairLt [x, y]) (kas_sort 2)).toList = _
    rw [e1]
  have n1 := lexB_not h1
  refine ⟨e2, ?_⟩
  unfold sorted
  rw [e3]
  generalize (evT (lt3 (lexB x y) true true) (kas_sort 2)).toList = l at *
  cases ha : lexB x y <;> rw [ha] at hg2 n1 <;> simp at hg2 <;> subst hg2 <;> simp only [Bool.not_true, Bool.not_false] at n1
  · exact ⟨rfl, by simp, List.Perm.swap .., by simp [n1]⟩
  · exact ⟨rfl, by simp, .refl _, by simp [ha]⟩
end L3
end Mine

end
section
set_option linter.unusedVariables false
set_option linter.unusedSimpArgs false
set_option autoImplicit false
set_option Elab.async false
set_option maxRecDepth 100000
set_option maxHeartbeats 1000000
namespace Mine
namespace R3
/-- how often a town told a road among its first n turns -/
def U (rd : Nat → Nat → Nat) (t r : Nat) : Nat → Nat
  | 0 => 0
  | n + 1 => U rd t r n + if rd t n = r then 1 else 0
structure Rotor (rd : Nat → Nat → Nat) (o : Nat → Nat) (L : Nat → Nat → Nat) : Prop where
  per : ∀ t, t < 3 → ∀ k, rd t (k + o t) = rd t k
  cnt : ∀ t, t < 3 → ∀ r, r < 4 → U rd t r (o t) = L t r
  op : ∀ t, t < 3 → 0 < o t
  lt : ∀ t, t < 3 → ∀ k, rd t k < 4
def upd (n : Nat → Nat) (t : Nat) : Nat → Nat := fun u => if u = t then n t + 1 else n u
def walk (rd : Nat → Nat → Nat) : Nat → (Nat → Nat) → Nat → Option (Nat × (Nat → Nat))
  | 0, _, _ => none
  | f + 1, n, p => if 2 ≤ rd p (n p) then some (rd p (n p), upd n p) else walk rd f (upd n p) ((p + 1 + rd p (n p)) % 3)
def In (rd : Nat → Nat → Nat) (n : Nat → Nat) : Nat → Nat
  | 0 => U rd 1 1 (n 1) + U rd 2 0 (n 2)
  | 1 => U rd 2 1 (n 2) + U rd 0 0 (n 0)
  | _ => U rd 0 1 (n 0) + U rd 1 0 (n 1)
def InK (L : Nat → Nat → Nat) (K : Nat → Nat) : Nat → Nat
  | 0 => K 1 * L 1 1 + K 2 * L 2 0
  | 1 => K 2 * L 2 1 + K 0 * L 0 0
  | _ => K 0 * L 0 1 + K 1 * L 1 0
def ind (a b : Nat) : Nat := if a = b then 1 else 0
def Gl (rd : Nat → Nat → Nat) (n : Nat → Nat) (g : Nat) : Nat := U rd 0 g (n 0) + U rd 1 g (n 1) + U rd 2 g (n 2)
section
variable {rd : Nat → Nat → Nat} {o : Nat → Nat} {L : Nat → Nat → Nat}
theorem U_succ (t r n : Nat) : U rd t r (n + 1) = U rd t r n + if rd t n = r then 1 else 0 := rfl
theorem U_mono (t r : Nat) : ∀ {n m : Nat}, n ≤ m → U rd t r n ≤ U rd t r m := by
  intro n m h
  induction m with
  | zero => rw [Nat.le_zero.1 h]; exact Nat.le_refl _
  | succ m ih =>
    rcases Nat.lt_or_ge n (m + 1) with h1 | h1
    · exact Nat.le_trans (ih (by omega)) (Nat.le_add_right _ _)
    · rw [show n = m + 1 by omega]; exact Nat.le_refl _
theorem U_all (h : Rotor rd o L) {t : Nat} (ht : t < 3) : ∀ n, U rd t 0 n + U rd t 1 n + U rd t 2 n + U rd t 3 n = n
  | 0 => rfl
  | n + 1 => by
    have ih := U_all h ht n
    have h4 := h.lt t ht n
    simp only [U]
    split <;> split <;> split <;> split <;> omega
theorem U_per (h : Rotor rd o L) {t r : Nat} (ht : t < 3) (hr : r < 4) : ∀ n, U rd t r (n + o t) = U rd t r n + L t r
  | 0 => by rw [Nat.zero_add, h.cnt t ht r hr, U, Nat.zero_add]
  | n + 1 => by
    rw [show n + 1 + o t = (n + o t) + 1 by omega, U, U_per h ht hr n, h.per t ht, U]
    omega
theorem U_mul (h : Rotor rd o L) {t r : Nat} (ht : t < 3) (hr : r < 4) (n : Nat) : ∀ x, U rd t r (n + x * o t) = U rd t r n + x * L t r
  | 0 => by simp
  | x + 1 => by
    rw [show n + (x + 1) * o t = (n + x * o t) + o t by rw [Nat.succ_mul]; omega, U_per h ht hr, U_mul h ht hr n x, Nat.succ_mul]
    omega
theorem per_mul (h : Rotor rd o L) {t : Nat} (ht : t < 3) (k : Nat) : ∀ x, rd t (k + x * o t) = rd t k
  | 0 => by simp
  | x + 1 => by rw [show k + (x + 1) * o t = (k + x * o t) + o t by rw [Nat.succ_mul]; omega, h.per t ht, per_mul h ht k x]
theorem o_sum (h : Rotor rd o L) {t : Nat} (ht : t < 3) : o t = L t 0 + L t 1 + L t 2 + L t 3 := by
  have := U_all h ht (o t)
  rw [h.cnt t ht 0 (by omega), h.cnt t ht 1 (by omega), h.cnt t ht 2 (by omega), h.cnt t ht 3 (by omega)] at this
  exact this.symm
theorem lt3_cases {p : Nat} (h : p < 3) : p = 0 ∨ p = 1 ∨ p = 2 := by omega
theorem upd_le (n : Nat → Nat) (p t : Nat) : n t ≤ upd n p t := by
  unfold upd; split
  · rename_i h; subst h; omega
  · exact Nat.le_refl _
theorem upd_ind (n : Nat → Nat) (p t : Nat) : upd n p t = n t + ind t p := by
  unfold upd ind; split
  · rename_i h; subst h; rfl
  · rfl
/-- a step on -/
theorem In_town {n : Nat → Nat} {p t : Nat} (hp : p < 3) (ht : t < 3) (hv : rd p (n p) < 2) : In rd (upd n p) t = In rd n t + ind t ((p + 1 + rd p (n p)) % 3) := by
  have hv : rd p (n p) = 0 ∨ rd p (n p) = 1 := by omega
  rcases lt3_cases hp with rfl | rfl | rfl <;> rcases lt3_cases ht with rfl | rfl | rfl <;> rcases hv with e | e <;> simp [In, upd, U_succ, ind, e] <;> omega
theorem In_goal {n : Nat → Nat} {p t : Nat} (hp : p < 3) (ht : t < 3) (hv : 2 ≤ rd p (n p)) : In rd (upd n p) t = In rd n t := by
  have h0 : ¬ rd p (n p) = 0 := by omega
  have h1 : ¬ rd p (n p) = 1 := by omega
  rcases lt3_cases hp with rfl | rfl | rfl <;> rcases lt3_cases ht with rfl | rfl | rfl <;> simp [In, upd, U_succ, h0, h1]
theorem Gl_upd {n : Nat → Nat} {p : Nat} (hp : p < 3) (g : Nat) : Gl rd (upd n p) g = Gl rd n g + ind (rd p (n p)) g := by
  rcases lt3_cases hp with rfl | rfl | rfl <;> simp [Gl, upd, U_succ, ind] <;> omega
/-- what a walk leaves -/
theorem walk_le : ∀ (f : Nat) (n : Nat → Nat) (p r : Nat) (n' : Nat → Nat), walk rd f n p = some (r, n') → (∀ t, n t ≤ n' t ∧ n' t ≤ n t + f) ∧ 2 ≤ r
  | 0, _, _, _, _, h => by cases h
  | f + 1, n, p, r, n', h => by
    unfold walk at h
    split at h
    · rename_i h2
      cases h
      refine ⟨fun t => ?_, h2⟩
      rw [upd_ind]; unfold ind; split <;> omega
    · have ih := walk_le f _ _ r n' h
      refine ⟨fun t => ?_, ih.2⟩
      have h3 := ih.1 t
      rw [upd_ind] at h3
      unfold ind at h3
      split at h3 <;> omega
theorem walk_bal : ∀ (f : Nat) (n : Nat → Nat) (p r : Nat) (n' : Nat → Nat), p < 3 → walk rd f n p = some (r, n') → ∀ t, t < 3 → n' t + In rd n t = n t + ind t p + In rd n' t
  | 0, _, _, _, _, _, h => by cases h
  | f + 1, n, p, r, n', hp, h => by
    intro t ht
    unfold walk at h
    split at h
    · rename_i h2
      cases h
      rw [In_goal hp ht h2, upd_ind]
    · rename_i h2
      have ih := walk_bal f _ _ r n' (Nat.mod_lt _ (by omega)) h t ht
      rw [In_town hp ht (by omega), upd_ind] at ih
      omega
theorem walk_goal : ∀ (f : Nat) (n : Nat → Nat) (p r : Nat) (n' : Nat → Nat), p < 3 → walk rd f n p = some (r, n') → ∀ g, 2 ≤ g → Gl rd n' g = Gl rd n g + ind r g
  | 0, _, _, _, _, _, h => by cases h
  | f + 1, n, p, r, n', hp, h => by
    intro g hg
    unfold walk at h
    split at h
    · cases h
      exact Gl_upd hp g
    · rename_i h2
      have ih := walk_goal f _ _ r n' (Nat.mod_lt _ (by omega)) h g hg
      rw [Gl_upd hp] at ih
      rw [ih]
      unfold ind
      rw [if_neg (by omega)]
      omega
/-- last exits lead to the goals, but for one town's -/
def Acy (rd : Nat → Nat → Nat) (o n : Nat → Nat) (q : Nat) : Prop := ∃ rk : Nat → Nat, ∀ t, t < 3 → t ≠ q → 2 ≤ rd t (n t + o t - 1) ∨ rk ((t + 1 + rd t (n t + o t - 1)) % 3) < rk t
theorem last_upd (h : Rotor rd o L) {n : Nat → Nat} {p : Nat} (hp : p < 3) : rd p (upd n p p + o p - 1) = rd p (n p) := by
  unfold upd
  rw [if_pos rfl, show n p + 1 + o p - 1 = n p + o p by omega, h.per p hp]
theorem Acy_step (h : Rotor rd o L) {n : Nat → Nat} {p : Nat} (hp : p < 3) (ha : Acy rd o n p) (hv : rd p (n p) < 2) : Acy rd o (upd n p) ((p + 1 + rd p (n p)) % 3) := by
  obtain ⟨rk, hk⟩ := ha
  refine ⟨fun t => if t = (p + 1 + rd p (n p)) % 3 then 0 else if t = p then 1 else rk t + 2, fun t ht hq => ?_⟩
  by_cases e : t = p
  · subst e
    rw [last_upd h ht]
    right
    simp only [if_true]
    rw [if_neg (by omega)]; omega
  · have e1 : upd n p t = n t := by unfold upd; rw [if_neg e]
    rw [e1]
    rcases hk t ht e with h1 | h1
    · exact .inl h1
    · right
      dsimp only
      rw [if_neg hq, if_neg e]
      split
      · omega
      · split
        · omega
        · omega
theorem Acy_goal (h : Rotor rd o L) {n : Nat → Nat} {p : Nat} (hp : p < 3) (ha : Acy rd o n p) (hv : 2 ≤ rd p (n p)) : Acy rd o (upd n p) 3 := by
  obtain ⟨rk, hk⟩ := ha
  refine ⟨rk, fun t ht _ => ?_⟩
  by_cases e : t = p
  · subst e
    rw [last_upd h ht]
    exact .inl hv
  · have e1 : upd n p t = n t := by unfold upd; rw [if_neg e]
    rw [e1]
    exact hk t ht e
theorem walk_acy (h : Rotor rd o L) : ∀ (f : Nat) (n : Nat → Nat) (p r : Nat) (n' : Nat → Nat), p < 3 → Acy rd o n p → walk rd f n p = some (r, n') → Acy rd o n' 3
  | 0, _, _, _, _, _, _, h => by cases h
  | f + 1, n, p, r, n', hp, ha, hw => by
    unfold walk at hw
    split at hw
    · rename_i h2
      cases hw
      exact Acy_goal h hp ha h2
    · rename_i h2
      exact walk_acy h f _ _ r n' (Nat.mod_lt _ (by omega)) (Acy_step h hp ha (by omega)) hw
theorem Acy.any {n : Nat → Nat} (h : Acy rd o n 3) (p : Nat) : Acy rd o n p := by
  obtain ⟨rk, hk⟩ := h
  exact ⟨rk, fun t ht _ => hk t ht (by omega)⟩
/-- no town is asked more often than K tells -/
theorem In_le (h : Rotor rd o L) {n0 n K : Nat → Nat} (hn : ∀ t, t < 3 → n t ≤ n0 t + K t * o t) {t : Nat} (ht : t < 3) : In rd n t ≤ In rd n0 t + InK L K t := by
  have a : ∀ u r, u < 3 → r < 4 → U rd u r (n u) ≤ U rd u r (n0 u) + K u * L u r := fun u r hu hr => by
    rw [← U_mul h hu hr]; exact U_mono _ _ (hn u hu)
  have a01 := a 0 0 (by omega) (by omega)
  have a02 := a 0 1 (by omega) (by omega)
  have a11 := a 1 0 (by omega) (by omega)
  have a12 := a 1 1 (by omega) (by omega)
  have a21 := a 2 0 (by omega) (by omega)
  have a22 := a 2 1 (by omega) (by omega)
  rcases lt3_cases ht with rfl | rfl | rfl <;> simp only [In, InK] <;> omega
theorem walk_max (h : Rotor rd o L) {n0 K : Nat → Nat} {N s : Nat} (hK : ∀ t, t < 3 → K t * o t = N * ind t s + InK L K t) {W : Nat} (hW : W ≤ N) :
    ∀ (f : Nat) (n : Nat → Nat) (p r : Nat) (n' : Nat → Nat), p < 3 → walk rd f n p = some (r, n') → (∀ t, t < 3 → n t ≤ n0 t + K t * o t) → (∀ t, t < 3 → n t + ind t p + In rd n0 t = n0 t + W * ind t s + In rd n t) → ∀ t, t < 3 → n' t ≤ n0 t + K t * o t
  | 0, _, _, _, _, _, hw, _, _ => by cases hw
  | f + 1, n, p, r, n', hp, hw, hn, hb => by
    have key : n p + 1 ≤ n0 p + K p * o p := by
      have b := hb p hp
      have i := In_le h hn hp
      have k := hK p hp
      have e : ind p p = 1 := by unfold ind; rw [if_pos rfl]
      have m : W * ind p s ≤ N * ind p s := Nat.mul_le_mul_right _ hW
      omega
    have hn' : ∀ t, t < 3 → upd n p t ≤ n0 t + K t * o t := by
      intro t ht
      unfold upd
      split
      · rename_i e; subst e; exact key
      · exact hn t ht
    unfold walk at hw
    split at hw
    · cases hw
      exact hn'
    · rename_i h2
      refine walk_max h hK hW f _ _ r n' (Nat.mod_lt _ (by omega)) hw hn' fun t ht => ?_
      have b := hb t ht
      rw [In_town hp ht (by omega), upd_ind]
      omega
/-- behind N walkers every tree has told whole rounds -/
theorem whole (h : Rotor rd o L) {n0 n K : Nat → Nat} {N s : Nat} (hK : ∀ t, t < 3 → K t * o t = N * ind t s + InK L K t) (hs : s < 3) (ha : Acy rd o n0 3) (hmo : ∀ t, t < 3 → n0 t ≤ n t) (hn : ∀ t, t < 3 → n t ≤ n0 t + K t * o t) (hb : ∀ t, t < 3 → n t + In rd n0 t = n0 t + N * ind t s + In rd n t)
    (hg : Gl rd n 2 + Gl rd n 3 = Gl rd n0 2 + Gl rd n0 3 + N) : ∀ t, t < 3 → n t = n0 t + K t * o t := by
  obtain ⟨rk, hk⟩ := ha
  have a : ∀ u r, u < 3 → r < 4 → U rd u r (n u) ≤ U rd u r (n0 u) + K u * L u r := fun u r hu hr => by
    rw [← U_mul h hu hr]; exact U_mono _ _ (hn u hu)
  -- the goals have their whole share
  have tot : K 0 * L 0 2 + K 0 * L 0 3 + (K 1 * L 1 2 + K 1 * L 1 3) + (K 2 * L 2 2 + K 2 * L 2 3) = N := by
    have k0 := hK 0 (by omega)
    have k1 := hK 1 (by omega)
    have k2 := hK 2 (by omega)
    rw [o_sum h (by omega)] at k0 k1 k2
    simp only [InK, Nat.mul_add] at k0 k1 k2
    have : N * ind 0 s + N * ind 1 s + N * ind 2 s = N := by
      rcases lt3_cases hs with rfl | rfl | rfl <;> simp [ind]
    omega
  have gl : ∀ u g, u < 3 → 2 ≤ g → g < 4 → U rd u g (n u) = U rd u g (n0 u) + K u * L u g := by
    have a02 := a 0 2 (by omega) (by omega)
    have a03 := a 0 3 (by omega) (by omega)
    have a12 := a 1 2 (by omega) (by omega)
    have a13 := a 1 3 (by omega) (by omega)
    have a22 := a 2 2 (by omega) (by omega)
    have a23 := a 2 3 (by omega) (by omega)
    simp only [Gl] at hg
    intro u g hu h2 h4
    have hg' : g = 2 ∨ g = 3 := by omega
    rcases lt3_cases hu with rfl | rfl | rfl <;> rcases hg' with rfl | rfl <;> omega
  have main : ∀ r t, t < 3 → rk t = r → n t = n0 t + K t * o t := by
    intro r
    induction r using Nat.strongRecOn with
    | _ r ih =>
      intro t ht hr
      refine Classical.byContradiction fun hne => ?_
      have hlt : n t < n0 t + K t * o t := Nat.lt_of_le_of_ne (hn t ht) hne
      have ho := h.op t ht
      -- the last exit was not told the whole number of times
      have e : rd t (n0 t + K t * o t - 1) = rd t (n0 t + o t - 1) := by
        have hK1 : 0 < K t := by
          rcases Nat.eq_zero_or_pos (K t) with h0 | h0
          · have := hmo t ht
            rw [h0, Nat.zero_mul] at hlt
            omega
          · exact h0
        have := per_mul h ht (n0 t + o t - 1) (K t - 1)
        rw [← this]
        congr 1
        have : K t * o t = o t + (K t - 1) * o t := by
          rw [Nat.sub_mul, Nat.one_mul]
          have : o t ≤ K t * o t := Nat.le_mul_of_pos_left _ hK1
          omega
        omega
      have hm : U rd t (rd t (n0 t + o t - 1)) (n t) + 1 ≤ U rd t (rd t (n0 t + o t - 1)) (n0 t + K t * o t) := by
        have h1 : U rd t (rd t (n0 t + o t - 1)) (n t) ≤ U rd t (rd t (n0 t + o t - 1)) (n0 t + K t * o t - 1) := U_mono _ _ (by omega)
        have h2 : U rd t (rd t (n0 t + o t - 1)) (n0 t + K t * o t - 1 + 1) = U rd t (rd t (n0 t + o t - 1)) (n0 t + K t * o t - 1) + 1 := by
          rw [U, if_pos e]
        rw [show n0 t + K t * o t - 1 + 1 = n0 t + K t * o t by omega] at h2
        omega
      have hl4 := h.lt t ht (n0 t + o t - 1)
      rcases hk t ht (by omega) with h2 | h2
      · rw [U_mul h ht hl4, gl t _ ht h2 hl4] at hm
        omega
      · rcases Nat.lt_or_ge (rd t (n0 t + o t - 1)) 2 with h3 | h3
        · have hd3 : (t + 1 + rd t (n0 t + o t - 1)) % 3 < 3 := Nat.mod_lt _ (by omega)
          have d := ih _ (hr ▸ h2) _ hd3 rfl
          generalize hv : rd t (n0 t + o t - 1) = v at *
          rw [U_mul h ht hl4] at hm
          have b := hb _ hd3
          have k := hK _ hd3
          have a01 := a 0 0 (by omega) (by omega)
          have a02 := a 0 1 (by omega) (by omega)
          have a11 := a 1 0 (by omega) (by omega)
          have a12 := a 1 1 (by omega) (by omega)
          have a21 := a 2 0 (by omega) (by omega)
          have a22 := a 2 1 (by omega) (by omega)
          have hv' : v = 0 ∨ v = 1 := by omega
          rcases lt3_cases ht with rfl | rfl | rfl <;> rcases hv' with rfl | rfl <;> simp only [Nat.reduceAdd, Nat.reduceMod, In, InK] at d b k <;> omega
        · rw [U_mul h ht hl4, gl t _ ht h3 hl4] at hm
          omega
  exact fun t ht => main _ t ht rfl
end
end R3
end Mine

end
noncomputable section
open PySem PySem.W PyProof.Rows
set_option linter.unusedVariables false
set_option linter.unusedSimpArgs false
set_option autoImplicit false
set_option Elab.async false
set_option maxRecDepth 100000
set_option maxHeartbeats 1000000
namespace Mine
namespace L3
open R3 (upd walk)
theorem callN_19 (m : Nat) (args : List V) (σ : St) : callN (m + 2) 19 args σ = runF full__law_common pl__law_common pc__law_common (ev__law_common (callN m)) args σ := rfl
theorem callN_20 (m : Nat) (args : List V) (σ : St) : callN (m + 2) 20 args σ = runF full__law_step pl__law_step pc__law_step (ev__law_step (callN m)) args σ := rfl
theorem callN_21 (m : Nat) (args : List V) (σ : St) : callN (m + 2) 21 args σ = runF full__law_walk pl__law_walk pc__law_walk (ev__law_walk (callN m)) args σ := rfl
theorem common_loop : ∀ (b a fu : Nat) (σ : St), b < fu → WS (whileL (truE (locE 1)) (consL (asgSw [0, 1] (tupE (consS (locE 1) (consS (binE .mod (locE 0) (locE 1)) nilS)))) nilL) fu ⟨[some (.int a), some (.int b)], []⟩ σ) fun fl lo σ' => fl = .next ∧ lo = [some (.int (Nat.gcd a b : Nat)), some (.int 0)] ∧ Keep (fun _ => False) σ σ' := by
  intro b
  induction b using Nat.strongRecOn with
  | _ b ih =>
    intro a fu σ hf
    obtain ⟨fu, rfl⟩ : ∃ k, fu = k + 1 := ⟨fu - 1, by omega⟩
    by_cases hb : b = 0
    · subst hb
      refine WS.whileF (WR.truE (WR.locE rfl (WR.ok.2 ⟨rfl, rfl, ?_, Keep.refl _ _⟩)))
      rw [Nat.gcd_zero_right]; rfl
    · have hb0 : 0 < b := Nat.pos_of_ne_zero hb
      have ht : ((b : Int) != 0) = true := by simp only [bne_iff_ne, ne_eq]; omega
      refine WS.whileT (WR.truE (WR.locE rfl (WR.ok.2 ⟨ht, ?_⟩)))
      have e1 : (a : Int).fmod (b : Int) = ((a % b : Nat) : Int) := by rw [Int.fmod_eq_emod_of_nonneg _ (by omega)]; rfl
      have g := getElem?_len σ (.tup [.int b, .int (a % b : Nat)])
      have e2 : tupE (consS (locE 1) (consS (binE .mod (locE 0) (locE 1)) nilS)) ⟨[some (.int a), some (.int b)], []⟩ σ = some (.ok (.ref σ.length) (σ ++ [.tup [.int b, .int (a % b : Nat)]])) := by
        simp only [tupE, consS, nilS, locE, binE, binV, bindR, List.getElem?_cons_zero, List.getElem?_cons_succ, Option.join_some, Option.map_some, show (b : Int) ≠ 0 by omega, ne_eq, not_false_eq_true, if_true, e1, List.length_cons, List.length_nil, Nat.reduceLeDiff]
      refine WS.cons (R := fun lo σ' => σ ++ [.tup [.int b, .int (a % b : Nat)]] = σ' ∧ lo = [some (.int b), some (.int (a % b : Nat))]) ?_ ?_
      · unfold asgSw
        rw [e2]
        simp only [bindE, g]
        exact ⟨_, _, _, rfl, rfl, rfl, rfl⟩
      rintro lo _ ⟨rfl, rfl⟩
      refine WS.nil.2 ?_
      refine (ih (a % b) (Nat.mod_lt _ hb0) b fu _ (by have := Nat.mod_lt a hb0; omega)).mono ?_
      rintro fl lo σ' ⟨rfl, rfl, K⟩
      refine ⟨rfl, ?_, (Keep.app _ _ _).addF K⟩
      rw [Nat.gcd_comm a b, Nat.gcd_rec b a, Nat.gcd_comm]
theorem common_ok (m : Nat) {σ : St} (a b : Nat) (hb : b < 100000) : WR (callN (m + 2) 19 [.int a, .int b] σ) fun v σ' => v = .int (Nat.gcd a b : Nat) ∧ Keep (fun _ => False) σ σ' := by
  rw [callN_19 m]
  refine WR.runF' (lo := [some (.int a), some (.int b)]) (cl := []) (σ' := σ) rfl rfl rfl (List.append_nil _) ?_
  unfold ev__law_common
  refine WS.consB ((common_loop b a fuel σ hb).mono ?_)
  rintro fl lo σ' ⟨rfl, rfl, K⟩
  exact WS.retS (WR.locE rfl ⟨rfl, K⟩)
/-- a town's data -/
structure TD where
  ta : TA
  s : Nat
  m : Nat
  f : List Nat
  ks : List (Int × Int)
  P : Int
  ln : Int → Nat
  R : List (Int × Int)
  kv : List (Int × V)
  ep : Option Nat
  road : Int → Nat
def TD.ans (D : TD) (k : Nat) : Int := (D.R.getD (k % D.R.length) (0, 0)).2
def TD.rd (D : TD) (k : Nat) : Nat := D.road (D.ans k)
structure TDok (D : TD) : Prop where
  r : Round D.ks D.P D.ln D.R
  w : ∀ k ∈ D.ks, 1 ≤ k.2 ∧ k.2 ≤ 256
  kv : ∀ k ∈ D.ks, (D.kv.find? fun p => p.1 == k.1) = some (k.1, .int (D.road k.1))
  mf : D.m ∉ D.f
  sf : D.s ∉ D.m :: D.f
  kl : D.ks.length < 900
structure TownAt (σ : St) (D : TD) (n : Nat) : Prop where
  fl : ∃ lw its kvs, Flat σ D.ta lw its kvs ∧ Turn D.ks D.P D.R n its ∧ ∀ i, i ∈ fp D.ta its ↔ i ∈ D.f
  sg : σ[D.s]? = some (.dict D.kv D.ep)
  an : σ[D.m]? = some (.list ((List.range n).map fun k => .int (D.ans k)))
theorem fp_perm {t : TA} {its its' : List Item} (h : (its.map fun p => p.2.d).Perm (its'.map fun p => p.2.d)) (i : Nat) : i ∈ fp t its ↔ i ∈ fp t its' := by
  simp only [fp, List.mem_cons]
  have := h.mem_iff (a := i)
  rw [this]
theorem TownAt.keep {S : Nat → Prop} {σ σ' : St} {D : TD} {n : Nat} (h : TownAt σ D n) (K : Keep S σ σ') (hd : ∀ i ∈ D.s :: D.m :: D.f, ¬ S i) : TownAt σ' D n := by
  obtain ⟨⟨lw, its, kvs, h1, h2, h3⟩, h4, h5⟩ := h
  simp only [List.forall_mem_cons] at hd
  exact ⟨⟨lw, its, kvs, h1.keep K fun i hi => hd.2.2 i ((h3 i).1 hi), h2, h3⟩, K.get h4 hd.1, K.get h5 hd.2.1⟩
theorem TDok.ans_mem {D : TD} (ok : TDok D) (n : Nat) : ∃ k ∈ D.ks, k.1 = D.ans n := by
  have hr : n % D.R.length < D.R.length := Nat.mod_lt _ ok.r.ne
  obtain ⟨k, hk, e⟩ := ok.r.ids D.R[n % D.R.length] (List.getElem_mem hr)
  refine ⟨k, hk, ?_⟩
  unfold TD.ans
  rw [List.getD_eq_getElem?_getD, List.getElem?_eq_getElem hr, Option.getD_some, e]
theorem step_ok (m : Nat) {σ : St} {D : TD} {n : Nat} (ok : TDok D) (h : TownAt σ D n) (hn : n < 16000000) :
    WR (callN (m + 16) 20 [.ref D.ta.a, .ref D.s, .ref D.m] σ) fun v σ' => v = .int (D.rd n) ∧ TownAt σ' D (n + 1) ∧ Keep (· ∈ D.m :: D.f) σ σ' := by
  obtain ⟨⟨lw, its, kvs, h1, h2, h3⟩, h4, h5⟩ := h
  have hits : its.length = D.ks.length := by have := h2.mem.length_eq; rwa [List.length_map] at this
  obtain ⟨l, x, rest, rfl, a1, a2, a3⟩ := turn_next ok.r h2
  have hans : x.id = D.ans n := by
    unfold TD.ans
    have hr : n % D.R.length < D.R.length := Nat.mod_lt _ ok.r.ne
    rw [List.getElem?_eq_getElem hr, Option.map_some, Option.some.injEq] at a1
    rw [List.getD_eq_getElem?_getD, List.getElem?_eq_getElem hr, Option.getD_some, a1]
  rw [callN_20 (m + 14)]
  refine WR.runF' (lo := [some (.ref D.ta.a), some (.ref D.s), some (.ref D.m), none]) (cl := []) (σ' := σ) rfl rfl rfl (List.append_nil _) ?_
  unfold ev__law_step
  refine WS.asgL (WR.methE (WR.locE rfl ⟨_, _, meth_at h1.hT h1.hB T_cls2 T_m17, WR.nilS ?_⟩))
  refine (next_ok m h1 (ok.w _ a2) (by have := ok.kl; simp only [List.length_cons] at hits; omega)).mono ?_
  rintro v σ1 ⟨rfl, F1, K1⟩
  have hkv := ok.kv _ a2
  dsimp only at hkv
  have K1' : Keep (· ∈ D.f) σ σ1 := K1.weak fun i hi => (h3 i).1 hi
  have s1 := K1'.get h4 (fun hs => ok.sf (List.mem_cons_of_mem _ hs))
  have m1 := K1'.get h5 ok.mf
  have hmem : D.kv.any (fun p => p.1 == x.id) = true := by
    rw [List.any_eq_true]
    exact ⟨_, List.mem_of_find?_eq_some hkv, by simp⟩
  simp only [setLo, List.set_cons_succ, List.set_cons_zero]
  refine WS.ifF ?_
  refine WR.orF (WR.truE (WR.biE (WR.consS (WR.locE rfl (WR.consS (WR.gloE (WR.nilS ?_)))))))
  simp only [isiV, String.reduceEq, if_false, if_true, WR.ok, truV, true_and]
  refine WR.orF (WR.notB (WR.truE (WR.biE (WR.consS (WR.locE rfl (WR.consS (WR.gloE (WR.nilS ?_))))))))
  simp only [isiV, String.reduceEq, if_false, if_true, WR.ok, truV, true_and, Bool.not_true]
  refine WR.orF (WR.truE (WR.cmpE (WR.locE rfl (WR.locE rfl ?_))))
  simp only [cmpV, s1, hmem, WR.ok, truV, Bool.not_true, true_and]
  refine WR.ffB ⟨rfl, WS.nilCons.2 ?_⟩
  refine WS.exprS (WR.lmE (WR.locE rfl ⟨by simp only [listAtV, m1], WR.consS (WR.locE rfl (WR.nilS (WR.app m1 (by simp; omega) ?_)))⟩))
  have K2 : Keep (· = D.m) σ1 (σ1.set D.m (.list ((List.range n).map (fun k => V.int (D.ans k)) ++ [.int x.id]))) := Keep.set (S := (· = D.m)) m1 rfl rfl
  have m2 := get_set (o' := .list ((List.range n).map (fun k => V.int (D.ans k)) ++ [.int x.id])) m1
  have s2 := K2.get s1 (fun e => ok.sf (by rw [e]; exact List.mem_cons_self ..))
  have F2 := F1.keep K2 (fun i hi e => ok.mf ?_)
  · refine WS.retS (WR.subE (WR.locE rfl (WR.locE rfl (WR.getD s2 hkv ⟨?_, ⟨⟨_, _, _, F2, a3, ?_⟩, s2, ?_⟩, ?_⟩))))
    · unfold TD.rd; rw [hans]
    · intro i
      rw [← h3 i]
      exact fp_perm ((ins_perm (Item.step (l, x)) rest).map fun p : Item => p.2.d) i
    · rw [m2, List.range_succ, List.map_append, hans]; rfl
    · refine (K1'.weak fun i hi => List.mem_cons_of_mem _ hi).then (K2.weak fun i hi => ?_)
      have : i = D.m := hi
      rw [this]; exact List.mem_cons_self ..
  · have e : i = D.m := e
    rw [← e]
    exact (h3 i).1 ((fp_perm ((ins_perm (Item.step (l, x)) rest).map fun p : Item => p.2.d) i).1 hi)
structure Trio (σ : St) (D : Nat → TD) (n : Nat → Nat) (tr si to : Nat) : Prop where
  t : ∀ t, t < 3 → TownAt σ (D t) (n t)
  tr : σ[tr]? = some (.list [.ref (D 0).ta.a, .ref (D 1).ta.a, .ref (D 2).ta.a])
  si : σ[si]? = some (.list [.ref (D 0).s, .ref (D 1).s, .ref (D 2).s])
  to : σ[to]? = some (.list [.ref (D 0).m, .ref (D 1).m, .ref (D 2).m])
def Mut (D : Nat → TD) (i : Nat) : Prop := ∃ t, t < 3 ∧ i ∈ (D t).m :: (D t).f
structure Sep (D : Nat → TD) (tr si to : Nat) : Prop where
  ok : ∀ t, t < 3 → TDok (D t)
  dis : ∀ t u, t < 3 → u < 3 → t ≠ u → ∀ i ∈ (D t).m :: (D t).f, i ∉ (D u).m :: (D u).f
  sg : ∀ u, u < 3 → ¬ Mut D (D u).s
  tr : ¬ Mut D tr
  si : ¬ Mut D si
  to : ¬ Mut D to
theorem Trio.keep {σ σ' : St} {D : Nat → TD} {n : Nat → Nat} {tr si to : Nat} (h : Trio σ D n tr si to) (sp : Sep D tr si to) {S : Nat → Prop} (K : Keep S σ σ') (hS : ∀ i, S i → i ≠ tr ∧ i ≠ si ∧ i ≠ to ∧ ∀ t, t < 3 → i ∉ (D t).s :: (D t).m :: (D t).f) : Trio σ' D n tr si to :=
  ⟨fun t ht => (h.t t ht).keep K fun i hi hs => (hS i hs).2.2.2 t ht hi, K.get h.tr fun h => (hS _ h).1 rfl, K.get h.si fun h => (hS _ h).2.1 rfl, K.get h.to fun h => (hS _ h).2.2.1 rfl⟩
theorem pick3 {α : Type} (f : Nat → α) {p : Nat} (hp : p < 3) : [f 0, f 1, f 2][p]? = some (f p) := by
  match p, hp with
  | 0, _ => rfl
  | 1, _ => rfl
  | 2, _ => rfl
theorem trio_step (m : Nat) {σ : St} {D : Nat → TD} {n : Nat → Nat} {tr si to p : Nat} (sp : Sep D tr si to) (h : Trio σ D n tr si to) (hp : p < 3) (hn : n p < 16000000) :
    WR (callN (m + 16) 20 [.ref (D p).ta.a, .ref (D p).s, .ref (D p).m] σ) fun v σ' => v = .int ((D p).rd (n p)) ∧ Trio σ' D (upd n p) tr si to ∧ Keep (Mut D) σ σ' := by
  refine (step_ok m (sp.ok p hp) (h.t p hp) hn).mono ?_
  rintro v σ' ⟨rfl, T1, K⟩
  have K' : Keep (Mut D) σ σ' := K.weak fun i hi => ⟨p, hp, hi⟩
  refine ⟨rfl, ⟨fun t ht => ?_, K'.get h.tr sp.tr, K'.get h.si sp.si, K'.get h.to sp.to⟩, K'⟩
  unfold R3.upd
  by_cases e : t = p
  · subst e; rw [if_pos rfl]; exact T1
  · rw [if_neg e]
    refine (h.t t ht).keep K fun i hi hs => ?_
    rcases List.mem_cons.1 hi with rfl | hi
    · exact sp.sg t ht ⟨p, hp, hs⟩
    · exact sp.dis t p ht hp e i hi hs
theorem walk_ok (m : Nat) {σ : St} {D : Nat → TD} {n n' : Nat → Nat} {tr si to p r : Nat} (sp : Sep D tr si to) (h : Trio σ D n tr si to) (hp : p < 3) (hn : ∀ t, n t + 9 < 16000000) (hw : walk (fun t => (D t).rd) 9 n p = some (r, n')) :
    WR (callN (m + 18) 21 [.ref tr, .ref si, .ref to, .int p] σ) fun v σ' => v = .int r ∧ Trio σ' D n' tr si to ∧ Keep (Mut D) σ σ' := by
  rw [callN_21 (m + 16)]
  refine WR.runF' (lo := [some (.ref tr), some (.ref si), some (.ref to), some (.int p), none, none]) (cl := []) (σ' := σ) rfl rfl rfl (List.append_nil _) ?_
  unfold ev__law_walk
  have g1 := getElem?_len σ (.rng 0 9)
  have K1 := Keep.app (fun _ => False) σ [.rng 0 9]
  refine WS.consB ?_
  refine WS.forS (a := .ref σ.length) (σ1 := σ ++ [.rng 0 9]) (kd := .rng 0) (len := 9) rfl (kd_rng g1 rfl rfl rfl) (.inl rfl)
    (fun j lo σ' => ∃ n2 p2 x y, p2 < 3 ∧ (∀ t, n2 t + (9 - j) < 16000000) ∧ walk (fun t => (D t).rd) (9 - j) n2 p2 = some (r, n') ∧ Trio σ' D n2 tr si to ∧ Keep (Mut D) (σ ++ [.rng 0 9]) σ' ∧ lo = [some (.ref tr), some (.ref si), some (.ref to), some (.int (p2 : Nat)), x, y]) ?_ ?_ ?_ ?_
  · exact ⟨n, p, _, _, hp, hn, hw, h.keep sp K1 fun _ h => h.elim, Keep.refl _ _, rfl⟩
  · rintro j lo σ' ⟨n2, p2, x, y, -, -, -, -, K, -⟩
    exact kd_rng (K.getX g1 rfl) rfl rfl rfl
  · rintro j lo σ' hj ⟨n2, p2, x, y, hp2, hn2, hw2, T2, K, rfl⟩
    refine ⟨.int j, [some (.ref tr), some (.ref si), some (.ref to), some (.int (p2 : Nat)), some (.int j), y], σ', ?_, rfl, ?_⟩
    · rw [it_rng (K.getX g1 rfl), Int.zero_add]
    refine WS.asgL ?_
    refine WR.callE (WR.consS (WR.subE (WR.locE rfl (WR.locE rfl (WR.getL T2.tr p2 rfl (pick3 (fun t => V.ref (D t).ta.a) hp2) ?_)))))
    refine (WR.consS (WR.subE (WR.locE rfl (WR.locE rfl (WR.getL T2.si p2 rfl (pick3 (fun t => V.ref (D t).s) hp2) ?_)))))
    refine (WR.consS (WR.subE (WR.locE rfl (WR.locE rfl (WR.getL T2.to p2 rfl (pick3 (fun t => V.ref (D t).m) hp2) (WR.nilS ?_))))))
    refine (trio_step m sp T2 hp2 (by have := hn2 p2; omega)).mono ?_
    rintro v σ2 ⟨rfl, T3, K3⟩
    simp only [setLo, List.set_cons_succ, List.set_cons_zero]
    obtain ⟨f, hf⟩ : ∃ f, 9 - j = f + 1 := ⟨9 - j - 1, by omega⟩
    rw [hf] at hw2 hn2
    unfold R3.walk at hw2
    have e0 : decide ((((D p2).rd (n2 p2) : Nat) : Int) < 0) = false := decide_eq_false (by omega)
    by_cases h2 : 2 ≤ (D p2).rd (n2 p2)
    · rw [if_pos h2] at hw2
      cases hw2
      have e1 : decide ((((D p2).rd (n2 p2) : Nat) : Int) > 1) = true := decide_eq_true (by omega)
      refine WS.ifT (WR.orF (WR.truE (WR.cmpE (WR.locE rfl (WR.intE ?_)))))
      simp only [cmpV, WR.ok, truV, e0, true_and]
      refine WR.orT (WR.truE (WR.cmpE (WR.locE rfl (WR.intE ?_))))
      simp only [cmpV, WR.ok, truV, e1, true_and]
      refine WS.consAssoc.2 (WS.retS (WR.locE rfl ?_))
      exact ⟨rfl, T3, (K1.weak fun _ h => h.elim).then (K.then K3)⟩
    · rw [if_neg h2] at hw2
      have e1 : decide ((((D p2).rd (n2 p2) : Nat) : Int) > 1) = false := decide_eq_false (by omega)
      refine WS.ifF (WR.orF (WR.truE (WR.cmpE (WR.locE rfl (WR.intE ?_)))))
      simp only [cmpV, WR.ok, truV, e0, true_and]
      refine WR.orF (WR.truE (WR.cmpE (WR.locE rfl (WR.intE ?_))))
      simp only [cmpV, WR.ok, truV, e1, true_and]
      refine WR.ffB ⟨rfl, WS.nilCons.2 ?_⟩
      have em : ((p2 : Nat) + 1 + (((D p2).rd (n2 p2) : Nat) : Int)).fmod 3 = (((p2 + 1 + (D p2).rd (n2 p2)) % 3 : Nat) : Int) := by
        rw [Int.fmod_eq_emod_of_nonneg _ (by omega)]; omega
      refine WS.asgL (WR.binE (WR.binE (WR.binE (WR.locE rfl (WR.intE (WR.add (WR.locE rfl (WR.add (WR.intE (WR.mod (by decide) ?_)))))))))) 
      rw [em]
      simp only [setLo, List.set_cons_succ, List.set_cons_zero]
      refine WS.nil.2 ⟨upd n2 p2, (p2 + 1 + (D p2).rd (n2 p2)) % 3, _, _, by omega, ?_, ?_, T3, K.then K3, rfl⟩
      · intro t
        have h3 := hn2 t
        have h4 := hn2 p2
        unfold R3.upd
        split <;> (try subst t) <;> omega
      · rw [show 9 - (j + 1) = f by omega]; exact hw2
  · rintro lo σ' ⟨n2, p2, x, y, -, -, hw2, -⟩
    cases hw2
end L3
end Mine

end
section
set_option linter.unusedVariables false
set_option linter.unusedSimpArgs false
set_option autoImplicit false
set_option Elab.async false
set_option maxRecDepth 100000
set_option maxHeartbeats 1000000
namespace Mine
namespace R3
/-- the lanes by the tables -/
def lane (i r : Nat) : Nat := (([[1,1,1,0],[1,1,0,1],[2,0,1,0],[0,2,0,1],[1,0,1,1],[0,1,2,0],[1,0,0,1],[0,1,1,0]] : List (List Nat)).getD i []).getD r 0
def fits (i : Nat) (l : List Nat) : Bool := l.count 0 == lane i 0 && l.count 1 == lane i 1 && l.count 2 == lane i 2 && l.count 3 == lane i 3
def arr3 : List (List Nat) := ((List.range 4).flatMap fun x => (List.range 4).flatMap fun y => (List.range 4).map fun z => [x, y, z])
def arr2 : List (List Nat) := ((List.range 4).flatMap fun x => (List.range 4).map fun y => [x, y])
def arr : List (List Nat) := (arr2 ++ arr3).filter fun l => (List.range 8).any fun i => fits i l
/-- a walk that uses up the rounds -/
def cw : Nat → List Nat → List Nat → List Nat → Bool
  | 0, _, _, _ => false
  | _ + 1, [], _, _ => false
  | f + 1, v :: a, b, c => if Nat.ble 2 v then true else if Nat.beq v 0 then cw f b c a else cw f c a b
def last3 : List Nat → Nat
  | [] => 0
  | [x] => x
  | _ :: y :: r => last3 (y :: r)
def esc : Nat → List Nat → List Nat → List Nat → Bool
  | 0, a, _, _ => Nat.ble 2 (last3 a)
  | f + 1, a, b, c => if Nat.ble 2 (last3 a) then true else if Nat.beq (last3 a) 0 then esc f b c a else esc f c a b
def okay (a b c : List Nat) : Bool := cw 9 a b c || !(esc 2 a b c && esc 2 b c a && esc 2 c a b)
theorem okay_all : (arr.all fun a => arr.all fun b => arr.all fun c => okay a b c) = true := by decide +kernel
end R3
end Mine

end
section
set_option linter.unusedVariables false
set_option linter.unusedSimpArgs false
set_option autoImplicit false
set_option Elab.async false
set_option maxRecDepth 100000
set_option maxHeartbeats 1000000
namespace Mine
namespace R3
def win (rd : Nat → Nat → Nat) (t : Nat) : Nat → Nat → List Nat
  | _, 0 => []
  | m, i + 1 => rd t m :: win rd t (m + 1) i
section
variable {rd : Nat → Nat → Nat} {o : Nat → Nat} {L : Nat → Nat → Nat}
theorem win_count (t r : Nat) : ∀ i m, (win rd t m i).count r + U rd t r m = U rd t r (m + i)
  | 0, m => by simp [win]
  | i + 1, m => by
    have ih := win_count t r i (m + 1)
    rw [U_succ] at ih
    rw [win, List.count_cons, show m + (i + 1) = m + 1 + i by omega, ← ih]
    by_cases e : rd t m = r
    · simp [e]; omega
    · simp [e]
theorem win_last (t : Nat) : ∀ i m, last3 (win rd t m (i + 1)) = rd t (m + i)
  | 0, m => rfl
  | i + 1, m => by
    have ih := win_last t i (m + 1)
    rw [win, win, last3]
    rw [win] at ih
    rw [ih]
    congr 1; omega
theorem win_mem (h : Rotor rd o L) {t i : Nat} (ht : t < 3) (hi : i < 8) (hf : ∀ r, r < 4 → L t r = lane i r) (ho : o t = 2 ∨ o t = 3) (m : Nat) : win rd t m (o t) ∈ arr := by
  unfold arr
  rw [List.mem_filter]
  have l4 := h.lt t ht
  constructor
  · rw [List.mem_append]
    rcases ho with ho | ho <;> rw [ho]
    · left
      simp only [win, arr2, List.mem_flatMap, List.mem_map, List.mem_range]
      exact ⟨_, l4 m, _, l4 (m + 1), rfl⟩
    · right
      simp only [win, arr3, List.mem_flatMap, List.mem_map, List.mem_range]
      exact ⟨_, l4 m, _, l4 (m + 1), _, l4 (m + 1 + 1), rfl⟩
  · rw [List.any_eq_true]
    refine ⟨i, List.mem_range.2 hi, ?_⟩
    have c : ∀ r, r < 4 → (win rd t m (o t)).count r = lane i r := by
      intro r hr
      have h1 := win_count (rd := rd) t r (o t) m
      rw [U_per h ht hr, hf r hr] at h1
      omega
    unfold fits
    rw [c 0 (by omega), c 1 (by omega), c 2 (by omega), c 3 (by omega)]
    simp
theorem cw_walk (hlt : ∀ t, t < 3 → ∀ k, rd t k < 4) : ∀ (f : Nat) (p : Nat) (n : Nat → Nat) (i j k : Nat), p < 3 → cw f (win rd p (n p) i) (win rd ((p + 1) % 3) (n ((p + 1) % 3)) j) (win rd ((p + 2) % 3) (n ((p + 2) % 3)) k) = true → ∃ r n', walk rd f n p = some (r, n')
  | 0, p, n, i, j, k, hp, h => by cases h
  | f + 1, p, n, 0, j, k, hp, h => by cases h
  | f + 1, p, n, i + 1, j, k, hp, h => by
    unfold walk
    by_cases h2 : 2 ≤ rd p (n p)
    · rw [if_pos h2]
      exact ⟨_, _, rfl⟩
    · rw [if_neg h2]
      rw [win, cw, if_neg (by rw [Nat.ble_eq]; exact h2)] at h
      have a1 : upd n p p = n p + 1 := by unfold upd; rw [if_pos rfl]
      have a2 : upd n p ((p + 1) % 3) = n ((p + 1) % 3) := by unfold upd; rw [if_neg (by omega)]
      have a3 : upd n p ((p + 2) % 3) = n ((p + 2) % 3) := by unfold upd; rw [if_neg (by omega)]
      split at h
      · rename_i h3
        have h3 : rd p (n p) = 0 := Nat.eq_of_beq_eq_true h3
        rw [h3, show p + 1 + 0 = p + 1 by omega]
        refine cw_walk hlt f ((p + 1) % 3) (upd n p) j k i (Nat.mod_lt _ (by omega)) ?_
        rw [show ((p + 1) % 3 + 1) % 3 = (p + 2) % 3 by omega, show ((p + 1) % 3 + 2) % 3 = p by omega, a1, a2, a3]
        exact h
      · rename_i h3
        have h3 : rd p (n p) = 1 := by
          have : ¬ rd p (n p) = 0 := fun e => h3 (by rw [e]; rfl)
          omega
        rw [h3]
        refine cw_walk hlt f ((p + 1 + 1) % 3) (upd n p) k i j (Nat.mod_lt _ (by omega)) ?_
        rw [show p + 1 + 1 = p + 2 by omega, show ((p + 2) % 3 + 1) % 3 = p by omega, show ((p + 2) % 3 + 2) % 3 = (p + 1) % 3 by omega, a1, a2, a3]
        exact h
theorem esc_ok {e rk : Nat → Nat} (hk : ∀ t, t < 3 → 2 ≤ e t ∨ rk ((t + 1 + e t) % 3) < rk t) {w : Nat → List Nat} (hw : ∀ t, last3 (w t) = e t) {p : Nat} (hp : p < 3) : esc 2 (w p) (w ((p + 1) % 3)) (w ((p + 2) % 3)) = true := by
  have k0 := hk 0 (by omega)
  have k1 := hk 1 (by omega)
  have k2 := hk 2 (by omega)
  have c : ∀ x : Nat, 2 ≤ x ∨ x = 0 ∨ x = 1 := fun x => by omega
  simp only [esc, hw]
  have w0 := hw 0
  have w1 := hw 1
  have w2 := hw 2
  rcases lt3_cases hp with rfl | rfl | rfl <;> rcases c (e 0) with c0 | c0 | c0 <;> rcases c (e 1) with c1 | c1 | c1 <;> rcases c (e 2) with c2 | c2 | c2 <;> simp_all <;> omega
theorem walk_some (h : Rotor rd o L) {ti : Nat → Nat} (hti : ∀ t, t < 3 → ti t < 8) (hf : ∀ t, t < 3 → ∀ r, r < 4 → L t r = lane (ti t) r) (ho : ∀ t, t < 3 → o t = 2 ∨ o t = 3) {n : Nat → Nat} (ha : Acy rd o n 3) {p : Nat} (hp : p < 3) : ∃ r n', walk rd 9 n p = some (r, n') := by
  have mem : ∀ t, t < 3 → win rd t (n t) (o t) ∈ arr := fun t ht => win_mem h ht (hti t ht) (hf t ht) (ho t ht) _
  have h1 := okay_all
  rw [List.all_eq_true] at h1
  have h1 := h1 _ (mem p hp)
  rw [List.all_eq_true] at h1
  have h1 := h1 _ (mem ((p + 1) % 3) (Nat.mod_lt _ (by omega)))
  rw [List.all_eq_true] at h1
  have h1 := h1 _ (mem ((p + 2) % 3) (Nat.mod_lt _ (by omega)))
  obtain ⟨rk, hk⟩ := ha
  let w : Nat → List Nat := fun t => if t < 3 then win rd t (n t) (o t) else [2]
  have hw : ∀ t, last3 (w t) = if t < 3 then rd t (n t + o t - 1) else 2 := by
    intro t
    simp only [w]
    split
    · rename_i ht
      have := h.op t ht
      obtain ⟨i, hi⟩ : ∃ i, o t = i + 1 := ⟨o t - 1, by omega⟩
      rw [hi, win_last]; rfl
    · rfl
  have es := fun {q : Nat} (hq : q < 3) => esc_ok (e := fun t => if t < 3 then rd t (n t + o t - 1) else 2) (rk := rk) (fun t ht => by simp only [ht, if_true]; exact hk t ht (by omega)) hw hq
  have wq : ∀ q, q < 3 → w q = win rd q (n q) (o q) := fun q hq => by simp only [w, hq, if_true]
  have e1 := es hp
  have e2 := es (q := (p + 1) % 3) (Nat.mod_lt _ (by omega))
  have e3 := es (q := (p + 2) % 3) (Nat.mod_lt _ (by omega))
  rw [show ((p + 1) % 3 + 1) % 3 = (p + 2) % 3 by omega, show ((p + 1) % 3 + 2) % 3 = p by omega] at e2
  rw [show ((p + 2) % 3 + 1) % 3 = p by omega, show ((p + 2) % 3 + 2) % 3 = (p + 1) % 3 by omega] at e3
  rw [wq p hp, wq _ (Nat.mod_lt _ (by omega)), wq _ (Nat.mod_lt _ (by omega))] at e1 e2 e3
  unfold okay at h1
  rw [e1, e2, e3] at h1
  simp only [Bool.and_self, Bool.not_true, Bool.or_false] at h1
  exact cw_walk h.lt 9 p n _ _ _ hp h1
end
end R3
end Mine

end
section
set_option linter.unusedVariables false
set_option linter.unusedSimpArgs false
set_option autoImplicit false
set_option Elab.async false
set_option maxRecDepth 100000
set_option maxHeartbeats 1000000
namespace Mine
namespace R3
def outl (i : Nat) : Nat := lane i 0 + lane i 1 + lane i 2 + lane i 3
/-- the net: towns' lanes in the middle, below 0 those to other towns -/
def net (ti : Nat → Nat) : List (List Int) := [[(outl (ti 0) : Int), -(lane (ti 0) 0 : Int), -(lane (ti 0) 1 : Int)], [-(lane (ti 1) 1 : Int), (outl (ti 1) : Int), -(lane (ti 1) 0 : Int)], [-(lane (ti 2) 0 : Int), -(lane (ti 2) 1 : Int), (outl (ti 2) : Int)]]
def D2 (a b c d : Int) : Int := a * d - b * c
def D3 (a b c d e f g h i : Int) : Int := a * D2 e f h i - b * D2 d f g i + c * D2 d e g h
def whl (ti : Nat → Nat) : Int := D3 (outl (ti 0)) (-(lane (ti 0) 0 : Int)) (-(lane (ti 0) 1 : Int)) (-(lane (ti 1) 1 : Int)) (outl (ti 1)) (-(lane (ti 1) 0 : Int)) (-(lane (ti 2) 0 : Int)) (-(lane (ti 2) 1 : Int)) (outl (ti 2))
def C9 (a b c d e f g h i : Int) (s t : Nat) : Int := match s, t with
  | 0, 0 => D2 e f h i
  | 0, 1 => -(D2 b c h i)
  | 0, _ => D2 b c e f
  | 1, 0 => -(D2 d f g i)
  | 1, 1 => D2 a c g i
  | 1, _ => -(D2 a c d f)
  | _, 0 => D2 d e g h
  | _, 1 => -(D2 a b g h)
  | _, _ => D2 a b d e
def cof (ti : Nat → Nat) (s t : Nat) : Int := C9 (outl (ti 0)) (-(lane (ti 0) 0 : Int)) (-(lane (ti 0) 1 : Int)) (-(lane (ti 1) 1 : Int)) (outl (ti 1)) (-(lane (ti 1) 0 : Int)) (-(lane (ti 2) 0 : Int)) (-(lane (ti 2) 1 : Int)) (outl (ti 2)) s t
def pk (i j k : Nat) : Nat → Nat
  | 0 => i
  | 1 => j
  | _ => k
def factB (i j k s : Nat) : Bool := decide (0 < whl (pk i j k)) && decide (whl (pk i j k) ≤ 27) && decide (0 ≤ cof (pk i j k) s 0) && decide (cof (pk i j k) s 0 ≤ 9) && decide (0 ≤ cof (pk i j k) s 1) && decide (cof (pk i j k) s 1 ≤ 9) && decide (0 ≤ cof (pk i j k) s 2) && decide (cof (pk i j k) s 2 ≤ 9)
theorem facts : ((List.range 8).all fun i => (List.range 8).all fun j => (List.range 8).all fun k => (List.range 3).all fun s => factB i j k s) = true := by decide +kernel
theorem fact {ti : Nat → Nat} (hti : ∀ t, t < 3 → ti t < 8) {s : Nat} (hs : s < 3) : (0 < whl ti ∧ whl ti ≤ 27) ∧ ∀ t, t < 3 → 0 ≤ cof ti s t ∧ cof ti s t ≤ 9 := by
  have h := facts
  simp only [List.all_eq_true, List.mem_range] at h
  have h := h (ti 0) (hti 0 (by omega)) (ti 1) (hti 1 (by omega)) (ti 2) (hti 2 (by omega)) s hs
  unfold factB at h
  have e1 : whl (pk (ti 0) (ti 1) (ti 2)) = whl ti := rfl
  have e2 : ∀ t, cof (pk (ti 0) (ti 1) (ti 2)) s t = cof ti s t := fun _ => rfl
  simp only [Bool.and_eq_true, decide_eq_true_eq, e1, e2] at h
  obtain ⟨⟨⟨⟨⟨⟨⟨a1, a2⟩, a3⟩, a4⟩, a5⟩, a6⟩, a7⟩, a8⟩ := h
  refine ⟨⟨a1, a2⟩, fun t ht => ?_⟩
  rcases lt3_cases ht with rfl | rfl | rfl
  · exact ⟨a3, a4⟩
  · exact ⟨a5, a6⟩
  · exact ⟨a7, a8⟩
theorem cramer (a b c d e f g h i x y z p q r : Int) (h0 : x * a + y * d + z * g = p) (h1 : x * b + y * e + z * h = q) (h2 : x * c + y * f + z * i = r) :
    D3 a b c d e f g h i * x = p * C9 a b c d e f g h i 0 0 + q * C9 a b c d e f g h i 1 0 + r * C9 a b c d e f g h i 2 0 ∧
    D3 a b c d e f g h i * y = p * C9 a b c d e f g h i 0 1 + q * C9 a b c d e f g h i 1 1 + r * C9 a b c d e f g h i 2 1 ∧
    D3 a b c d e f g h i * z = p * C9 a b c d e f g h i 0 2 + q * C9 a b c d e f g h i 1 2 + r * C9 a b c d e f g h i 2 2 := by
  subst h0 h1 h2
  simp only [D3, C9, D2]
  refine ⟨?_, ?_, ?_⟩ <;> grind
theorem adj (a b c d e f g h i : Int) {s : Nat} (hs : s < 3) :
    (C9 a b c d e f g h i s 0 * a + C9 a b c d e f g h i s 1 * d + C9 a b c d e f g h i s 2 * g = if s = 0 then D3 a b c d e f g h i else 0) ∧
    (C9 a b c d e f g h i s 0 * b + C9 a b c d e f g h i s 1 * e + C9 a b c d e f g h i s 2 * h = if s = 1 then D3 a b c d e f g h i else 0) ∧
    (C9 a b c d e f g h i s 0 * c + C9 a b c d e f g h i s 1 * f + C9 a b c d e f g h i s 2 * i = if s = 2 then D3 a b c d e f g h i else 0) := by
  rcases lt3_cases hs with rfl | rfl | rfl <;> simp only [D3, C9, D2] <;> refine ⟨?_, ?_, ?_⟩ <;> simp <;> grind
/-- the greatest common divisor -/
def com (ti : Nat → Nat) (s : Nat) : Nat := Nat.gcd (Nat.gcd (Nat.gcd (whl ti).toNat (cof ti s 0).toNat) (cof ti s 1).toNat) (cof ti s 2).toNat
def NN (ti : Nat → Nat) (s : Nat) : Nat := (whl ti).toNat / com ti s
def KK (ti : Nat → Nat) (s t : Nat) : Nat := (cof ti s t).toNat / com ti s
section
variable {ti : Nat → Nat} {s : Nat}
theorem com_dvd : com ti s ∣ (whl ti).toNat ∧ ∀ t, t < 3 → com ti s ∣ (cof ti s t).toNat := by
  unfold com
  have a := Nat.gcd_dvd_left (Nat.gcd (Nat.gcd (whl ti).toNat (cof ti s 0).toNat) (cof ti s 1).toNat) (cof ti s 2).toNat
  have b := Nat.gcd_dvd_right (Nat.gcd (Nat.gcd (whl ti).toNat (cof ti s 0).toNat) (cof ti s 1).toNat) (cof ti s 2).toNat
  have c := Nat.gcd_dvd_left (Nat.gcd (whl ti).toNat (cof ti s 0).toNat) (cof ti s 1).toNat
  have d := Nat.gcd_dvd_right (Nat.gcd (whl ti).toNat (cof ti s 0).toNat) (cof ti s 1).toNat
  have e := Nat.gcd_dvd_left (whl ti).toNat (cof ti s 0).toNat
  have f := Nat.gcd_dvd_right (whl ti).toNat (cof ti s 0).toNat
  refine ⟨Nat.dvd_trans (Nat.dvd_trans a c) e, fun t ht => ?_⟩
  rcases lt3_cases ht with rfl | rfl | rfl
  · exact Nat.dvd_trans (Nat.dvd_trans a c) f
  · exact Nat.dvd_trans a d
  · exact b
theorem com_pos (hti : ∀ t, t < 3 → ti t < 8) (hs : s < 3) : 0 < com ti s := by
  have h := (fact hti hs).1
  have d := (com_dvd (ti := ti) (s := s)).1
  exact Nat.pos_of_dvd_of_pos d (by omega)
theorem NN_mul : NN ti s * com ti s = (whl ti).toNat := Nat.div_mul_cancel com_dvd.1
theorem KK_mul {t : Nat} (ht : t < 3) : KK ti s t * com ti s = (cof ti s t).toNat := Nat.div_mul_cancel (com_dvd.2 t ht)
theorem NN_pos (hti : ∀ t, t < 3 → ti t < 8) (hs : s < 3) : 0 < NN ti s ∧ NN ti s ≤ 27 := by
  have h := (fact hti hs).1
  have c := com_pos hti hs
  have m := NN_mul (ti := ti) (s := s)
  constructor
  · rcases Nat.eq_zero_or_pos (NN ti s) with h0 | h0
    · rw [h0, Nat.zero_mul] at m; omega
    · exact h0
  · have : NN ti s ≤ NN ti s * com ti s := Nat.le_mul_of_pos_right _ c
    omega
theorem KK_le (hti : ∀ t, t < 3 → ti t < 8) (hs : s < 3) {t : Nat} (ht : t < 3) : KK ti s t ≤ 9 := by
  have h := (fact hti hs).2 t ht
  have c := com_pos hti hs
  have m := KK_mul (ti := ti) (s := s) ht
  have : KK ti s t ≤ KK ti s t * com ti s := Nat.le_mul_of_pos_right _ c
  omega
theorem KK_eq (hti : ∀ t, t < 3 → ti t < 8) (hs : s < 3) : ∀ t, t < 3 → KK ti s t * outl (ti t) = NN ti s * ind t s + InK (fun t r => lane (ti t) r) (KK ti s) t := by
  have a := adj (outl (ti 0)) (-(lane (ti 0) 0 : Int)) (-(lane (ti 0) 1 : Int)) (-(lane (ti 1) 1 : Int)) (outl (ti 1)) (-(lane (ti 1) 0 : Int)) (-(lane (ti 2) 0 : Int)) (-(lane (ti 2) 1 : Int)) (outl (ti 2)) hs
  have h := fact hti hs
  have h0 := h.2 0 (by omega)
  have h1 := h.2 1 (by omega)
  have h2 := h.2 2 (by omega)
  have k0 := KK_mul (ti := ti) (s := s) (t := 0) (by omega)
  have k1 := KK_mul (ti := ti) (s := s) (t := 1) (by omega)
  have k2 := KK_mul (ti := ti) (s := s) (t := 2) (by omega)
  have nn := NN_mul (ti := ti) (s := s)
  have c := com_pos hti hs
  change (cof ti s 0 * _ + cof ti s 1 * _ + cof ti s 2 * _ = if s = 0 then whl ti else 0) ∧ (cof ti s 0 * _ + cof ti s 1 * _ + cof ti s 2 * _ = if s = 1 then whl ti else 0) ∧ (cof ti s 0 * _ + cof ti s 1 * _ + cof ti s 2 * _ = if s = 2 then whl ti else 0) at a
  have e0 : cof ti s 0 = ((KK ti s 0 : Nat) : Int) * (com ti s : Int) := by rw [← Int.natCast_mul, k0]; omega
  have e1 : cof ti s 1 = ((KK ti s 1 : Nat) : Int) * (com ti s : Int) := by rw [← Int.natCast_mul, k1]; omega
  have e2 : cof ti s 2 = ((KK ti s 2 : Nat) : Int) * (com ti s : Int) := by rw [← Int.natCast_mul, k2]; omega
  have e3 : whl ti = ((NN ti s : Nat) : Int) * (com ti s : Int) := by rw [← Int.natCast_mul, nn]; omega
  rw [e0, e1, e2, e3] at a
  obtain ⟨a0, a1, a2⟩ := a
  have cz : (com ti s : Int) ≠ 0 := by omega
  generalize KK ti s = K at *
  generalize NN ti s = N at *
  generalize (com ti s : Int) = g at *
  intro t ht
  have fin : ∀ x y : Int, x * g = y * g → x = y := fun x y e => Int.eq_of_mul_eq_mul_right cz e
  rcases lt3_cases ht with rfl | rfl | rfl
  · have b0 := fin ((K 0 : Int) * (outl (ti 0) : Int) + (K 1 : Int) * (-(lane (ti 1) 1 : Int)) + (K 2 : Int) * (-(lane (ti 2) 0 : Int))) (if s = 0 then (N : Int) else 0) (by split <;> rename_i e <;> simp only [e, if_true, if_false] at a0 <;> grind)
    have : ((K 0 * outl (ti 0) : Nat) : Int) = ((N * ind 0 s + InK (fun t r => lane (ti t) r) K 0 : Nat) : Int) := by
      simp only [InK, Int.natCast_mul, Int.natCast_add]
      unfold ind
      split at b0 <;> rename_i e
      · subst e; simp; grind
      · rw [if_neg (fun x => e x.symm)]; simp; grind
    exact_mod_cast this
  · have b0 := fin ((K 0 : Int) * (-(lane (ti 0) 0 : Int)) + (K 1 : Int) * (outl (ti 1) : Int) + (K 2 : Int) * (-(lane (ti 2) 1 : Int))) (if s = 1 then (N : Int) else 0) (by split <;> rename_i e <;> simp only [e, if_true, if_false] at a1 <;> grind)
    have : ((K 1 * outl (ti 1) : Nat) : Int) = ((N * ind 1 s + InK (fun t r => lane (ti t) r) K 1 : Nat) : Int) := by
      simp only [InK, Int.natCast_mul, Int.natCast_add]
      unfold ind
      split at b0 <;> rename_i e
      · subst e; simp; grind
      · rw [if_neg (fun x => e x.symm)]; simp; grind
    exact_mod_cast this
  · have b0 := fin ((K 0 : Int) * (-(lane (ti 0) 1 : Int)) + (K 1 : Int) * (-(lane (ti 1) 0 : Int)) + (K 2 : Int) * (outl (ti 2) : Int)) (if s = 2 then (N : Int) else 0) (by split <;> rename_i e <;> simp only [e, if_true, if_false] at a2 <;> grind)
    have : ((K 2 * outl (ti 2) : Nat) : Int) = ((N * ind 2 s + InK (fun t r => lane (ti t) r) K 2 : Nat) : Int) := by
      simp only [InK, Int.natCast_mul, Int.natCast_add]
      unfold ind
      split at b0 <;> rename_i e
      · subst e; simp; grind
      · rw [if_neg (fun x => e x.symm)]; simp; grind
    exact_mod_cast this
/-- whole rounds come after N walkers at the earliest -/
theorem NN_min (hti : ∀ t, t < 3 → ti t < 8) (hs : s < 3) {w : Nat} {x : Nat → Nat} (hx : ∀ t, t < 3 → x t * outl (ti t) = w * ind t s + InK (fun t r => lane (ti t) r) x t) : NN ti s ∣ w := by
  have h := fact hti hs
  have x0 := hx 0 (by omega)
  have x1 := hx 1 (by omega)
  have x2 := hx 2 (by omega)
  simp only [InK] at x0 x1 x2
  have z0 : (x 0 : Int) * (outl (ti 0) : Int) + (x 1 : Int) * (-(lane (ti 1) 1 : Int)) + (x 2 : Int) * (-(lane (ti 2) 0 : Int)) = (w : Int) * (ind 0 s : Int) := by
    have := congrArg (fun n : Nat => (n : Int)) x0
    simp only [Int.natCast_mul, Int.natCast_add] at this
    grind
  have z1 : (x 0 : Int) * (-(lane (ti 0) 0 : Int)) + (x 1 : Int) * (outl (ti 1) : Int) + (x 2 : Int) * (-(lane (ti 2) 1 : Int)) = (w : Int) * (ind 1 s : Int) := by
    have := congrArg (fun n : Nat => (n : Int)) x1
    simp only [Int.natCast_mul, Int.natCast_add] at this
    grind
  have z2 : (x 0 : Int) * (-(lane (ti 0) 1 : Int)) + (x 1 : Int) * (-(lane (ti 1) 0 : Int)) + (x 2 : Int) * (outl (ti 2) : Int) = (w : Int) * (ind 2 s : Int) := by
    have := congrArg (fun n : Nat => (n : Int)) x2
    simp only [Int.natCast_mul, Int.natCast_add] at this
    grind
  have c := cramer _ _ _ _ _ _ _ _ _ _ _ _ _ _ _ z0 z1 z2
  have cc : ∀ t, t < 3 → whl ti * (x t : Int) = (w : Int) * cof ti s t := by
    intro t ht
    rcases lt3_cases ht with rfl | rfl | rfl
    · have c := c.1
      rcases lt3_cases hs with rfl | rfl | rfl <;> simp [ind] at c <;> exact c
    · have c := c.2.1
      rcases lt3_cases hs with rfl | rfl | rfl <;> simp [ind] at c <;> exact c
    · have c := c.2.2
      rcases lt3_cases hs with rfl | rfl | rfl <;> simp [ind] at c <;> exact c
  have dv : ∀ t, t < 3 → (whl ti).toNat ∣ w * (cof ti s t).toNat := by
    intro t ht
    refine ⟨x t, ?_⟩
    have e := cc t ht
    have h1 := h.1
    have h2 := h.2 t ht
    have e1 : whl ti = ((whl ti).toNat : Int) := by omega
    have e2 : cof ti s t = ((cof ti s t).toNat : Int) := by omega
    rw [e1, e2] at e
    exact_mod_cast e.symm
  have dw : (whl ti).toNat ∣ w * com ti s := by
    unfold com
    rw [← Nat.gcd_mul_left, ← Nat.gcd_mul_left, ← Nat.gcd_mul_left]
    exact Nat.dvd_gcd (Nat.dvd_gcd (Nat.dvd_gcd (Nat.dvd_mul_left _ _) (dv 0 (by omega))) (dv 1 (by omega))) (dv 2 (by omega))
  rw [← NN_mul (ti := ti) (s := s)] at dw
  exact Nat.dvd_of_mul_dvd_mul_right (com_pos hti hs) dw
end
end R3
end Mine

end
section
set_option linter.unusedVariables false
set_option linter.unusedSimpArgs false
set_option autoImplicit false
set_option Elab.async false
set_option maxRecDepth 100000
set_option maxHeartbeats 1000000
namespace Mine
namespace R3
/-- the law's towns -/
structure Law (rd : Nat → Nat → Nat) (ti : Nat → Nat) : Prop where
  rot : Rotor rd (fun t => outl (ti t)) (fun t r => lane (ti t) r)
  ti : ∀ t, t < 3 → ti t < 8
theorem out23 : ∀ i, i < 8 → outl i = 2 ∨ outl i = 3 := by decide
section
variable {rd : Nat → Nat → Nat} {ti : Nat → Nat}
abbrev oo (ti : Nat → Nat) : Nat → Nat := fun t => outl (ti t)
theorem Law.walk (l : Law rd ti) {n : Nat → Nat} (ha : Acy rd (oo ti) n 3) {p : Nat} (hp : p < 3) : ∃ r n', R3.walk rd 9 n p = some (r, n') ∧ 2 ≤ r ∧ r < 4 ∧ Acy rd (oo ti) n' 3 ∧ ∀ t, n t ≤ n' t ∧ n' t ≤ n t + 9 := by
  obtain ⟨r, n', h⟩ := walk_some l.rot l.ti (fun _ _ _ _ => rfl) (fun t ht => out23 _ (l.ti t ht)) ha hp
  have h1 := walk_le 9 n p r n' h
  refine ⟨r, n', h, h1.2, ?_, walk_acy l.rot 9 n p r n' hp (ha.any p) h, h1.1⟩
  have : ∀ (f : Nat) (n : Nat → Nat) (p : Nat), p < 3 → R3.walk rd f n p = some (r, n') → r < 4 := by
    intro f
    induction f with
    | zero => intro n p _ h; cases h
    | succ f ih =>
      intro n p hp h
      unfold R3.walk at h
      split at h
      · cases h; exact l.rot.lt p hp _
      · exact ih _ _ (Nat.mod_lt _ (by omega)) h
  exact this 9 n p hp h
structure Inv (rd : Nat → Nat → Nat) (ti : Nat → Nat) (s : Nat) (n0 : Nat → Nat) (w : Nat) (n : Nat → Nat) (ends : List Nat) : Prop where
  acy : Acy rd (oo ti) n 3
  lo : ∀ t, t < 3 → n0 t ≤ n t
  hi : ∀ t, t < 3 → n t ≤ n0 t + KK ti s t * outl (ti t)
  bal : ∀ t, t < 3 → n t + In rd n0 t = n0 t + w * ind t s + In rd n t
  goal : ∀ g, 2 ≤ g → Gl rd n g = Gl rd n0 g + ends.count g
  len : ends.length = w
  mem : ∀ e ∈ ends, 2 ≤ e ∧ e < 4
theorem Inv.start (s : Nat) {n : Nat → Nat} (ha : Acy rd (oo ti) n 3) : Inv rd ti s n 0 n [] :=
  ⟨ha, fun _ _ => Nat.le_refl _, fun _ _ => Nat.le_add_right _ _, fun t _ => by simp, fun _ _ => by simp, rfl, fun _ h => by cases h⟩
theorem Inv.next (l : Law rd ti) {s : Nat} (hs : s < 3) {n0 n : Nat → Nat} {w : Nat} {ends : List Nat} (h : Inv rd ti s n0 w n ends) (hw : w < NN ti s) : ∃ r n', R3.walk rd 9 n s = some (r, n') ∧ Inv rd ti s n0 (w + 1) n' (ends ++ [r]) := by
  obtain ⟨r, n', e, r2, r4, ha, hl⟩ := l.walk h.acy hs
  refine ⟨r, n', e, ha, fun t ht => Nat.le_trans (h.lo t ht) (hl t).1, ?_, ?_, ?_, ?_, ?_⟩
  · refine walk_max l.rot (N := NN ti s) (s := s) (W := w + 1) (KK_eq l.ti hs) hw 9 n s r n' hs e h.hi fun t ht => ?_
    have b := h.bal t ht
    rw [Nat.add_mul, Nat.one_mul]
    omega
  · intro t ht
    have b := h.bal t ht
    have b2 := walk_bal 9 n s r n' hs e t ht
    rw [Nat.add_mul, Nat.one_mul]
    omega
  · intro g hg
    have b := h.goal g hg
    have b2 := walk_goal 9 n s r n' hs e g hg
    rw [b2, b, List.count_append, List.count_singleton]
    unfold ind
    by_cases e : r = g
    · simp [e]; omega
    · simp [e]
  · rw [List.length_append, h.len]; rfl
  · intro x hx
    rcases List.mem_append.1 hx with hx | hx
    · exact h.mem x hx
    · rw [List.mem_singleton.1 hx]; exact ⟨r2, r4⟩
theorem cnt23 : ∀ (ends : List Nat), (∀ e ∈ ends, 2 ≤ e ∧ e < 4) → ends.count 2 + ends.count 3 = ends.length
  | [], _ => rfl
  | x :: xs, h => by
    have ih := cnt23 xs fun e he => h e (List.mem_cons_of_mem _ he)
    have hx := h x (List.mem_cons_self ..)
    have : x = 2 ∨ x = 3 := by omega
    rcases this with rfl | rfl <;> simp <;> omega
theorem Inv.fin (l : Law rd ti) {s : Nat} (hs : s < 3) {n0 n : Nat → Nat} {ends : List Nat} (h0 : Acy rd (oo ti) n0 3) (h : Inv rd ti s n0 (NN ti s) n ends) : ∀ t, t < 3 → n t = n0 t + KK ti s t * outl (ti t) := by
  refine whole l.rot (KK_eq l.ti hs) hs h0 h.lo h.hi h.bal ?_
  have a := h.goal 2 (by omega)
  have b := h.goal 3 (by omega)
  have c := cnt23 ends h.mem
  have d := h.len
  omega
/-- each road's share -/
theorem share (l : Law rd ti) {n0 n K : Nat → Nat} (hn : ∀ t, t < 3 → n t = n0 t + K t * outl (ti t)) {t r : Nat} (ht : t < 3) (hr : r < 4) : U rd t r (n t) = U rd t r (n0 t) + K t * lane (ti t) r := by
  rw [hn t ht]; exact U_mul l.rot ht hr _ _
theorem Inv.ends (l : Law rd ti) {s : Nat} (hs : s < 3) {n0 n : Nat → Nat} {ends : List Nat} (h0 : Acy rd (oo ti) n0 3) (h : Inv rd ti s n0 (NN ti s) n ends) {g : Nat} (h2 : 2 ≤ g) (h4 : g < 4) : ends.count g = KK ti s 0 * lane (ti 0) g + KK ti s 1 * lane (ti 1) g + KK ti s 2 * lane (ti 2) g := by
  have hn := h.fin l hs h0
  have a := h.goal g h2
  have s0 := share l hn (t := 0) (by omega) h4
  have s1 := share l hn (t := 1) (by omega) h4
  have s2 := share l hn (t := 2) (by omega) h4
  simp only [Gl] at a
  omega
theorem Inv.test (l : Law rd ti) {s : Nat} (hs : s < 3) {n0 n : Nat → Nat} {w : Nat} {ends : List Nat} (h0 : Acy rd (oo ti) n0 3) (h : Inv rd ti s n0 w n ends) (h1 : 1 ≤ w) (hw : w ≤ NN ti s) : (∀ t, t < 3 → (n t - n0 t) % outl (ti t) = 0) ↔ w = NN ti s := by
  constructor
  · intro hm
    have hx : ∀ t, t < 3 → n t = n0 t + (fun t => (n t - n0 t) / outl (ti t)) t * outl (ti t) := by
      intro t ht
      have := Nat.div_add_mod (n t - n0 t) (outl (ti t))
      rw [hm t ht] at this
      have lo := h.lo t ht
      dsimp only
      rw [Nat.mul_comm] at this
      omega
    generalize (fun t => (n t - n0 t) / outl (ti t)) = x at hx
    have : NN ti s ∣ w := by
      refine NN_min l.ti hs (x := x) fun t ht => ?_
      have b := h.bal t ht
      rw [hx t ht] at b
      have s00 := share l hx (t := 0) (r := 0) (by omega) (by omega)
      have s01 := share l hx (t := 0) (r := 1) (by omega) (by omega)
      have s10 := share l hx (t := 1) (r := 0) (by omega) (by omega)
      have s11 := share l hx (t := 1) (r := 1) (by omega) (by omega)
      have s20 := share l hx (t := 2) (r := 0) (by omega) (by omega)
      have s21 := share l hx (t := 2) (r := 1) (by omega) (by omega)
      rcases lt3_cases ht with rfl | rfl | rfl <;> simp only [In, InK] at b ⊢ <;> omega
    have := Nat.le_of_dvd h1 this
    omega
  · rintro rfl t ht
    rw [h.fin l hs h0 t ht, Nat.add_sub_cancel_left, Nat.mul_mod_left]
end
end R3
end Mine

end
noncomputable section
open PySem PySem.W PyProof.Rows
set_option linter.unusedVariables false
set_option linter.unusedSimpArgs false
set_option autoImplicit false
set_option Elab.async false
set_option maxRecDepth 100000
set_option maxHeartbeats 1000000
namespace Mine
namespace L3
abbrev CL : List Nat := [0, 1, 2, 3, 4, 5, 6, 7, 8, 9, 10, 11]
def Cells (σ : St) : Prop := ∀ j, j < 12 → ∃ o, σ[j]? = some (.cell o)
theorem CL_get {j : Nat} (h : j < 12) : CL[j]? = some j := by
  have : ∀ j, j < 12 → CL[j]? = some j := by decide
  exact this j h
theorem Cells.set {σ : St} (h : Cells σ) {j : Nat} (hj : j < 12) (v : Option V) : Cells (σ.set j (.cell v)) := by
  intro i hi
  obtain ⟨o, e⟩ := h i hi
  by_cases d : j = i
  · subst d; exact ⟨_, get_set e⟩
  · exact ⟨o, get_set_ne d e⟩
theorem Cells.keep {S : Nat → Prop} {σ σ' : St} (h : Cells σ) (K : Keep S σ σ') (hs : ∀ j, j < 12 → ¬ S j) : Cells σ' := fun j hj => by
  obtain ⟨o, e⟩ := h j hj
  exact ⟨o, K.get e (hs j hj)⟩
theorem Cells.app {σ : St} (h : Cells σ) (τ : St) : Cells (σ ++ τ) := h.keep (Keep.app (fun _ => False) _ _) fun _ _ h => h
/-- a cell's value is set -/
theorem WS.setC {P : Fl → List (Option V) → St → Prop} {lo : List (Option V)} {σ : St} {b : SF} {j : Nat} {e : EF} (h : WR (e ⟨lo, CL⟩ σ) fun v σ1 => Cells σ1 ∧ WS (b ⟨lo, CL⟩ (σ1.set j (.cell (some v)))) P) (hj : j < 12 := by decide) : WS (consL (asgC j e) b ⟨lo, CL⟩ σ) P :=
  WS.asgC (o := none) (h.mono fun v σ1 ⟨c, q⟩ => ⟨CL_get hj, c j hj, q⟩)
def own9 : List Int := [0, 1, 0, 2, 1, 4, 3, 7, 1]
/-- the nine numbers -/
def nums9 (ns : List Int) : List Int := ns.take 9 ++ own9.drop (ns.take 9).length
theorem nums9_len (ns : List Int) : (nums9 ns).length = 9 := by
  simp only [nums9, own9, List.length_append, List.length_drop, List.length_take, List.length_cons, List.length_nil]
  omega
theorem T_352 : T.tups 352 = some (own9.map .int) := rfl
/-- a town's table -/
def tbl (ns : List Int) (t : Nat) : Nat := ((nums9 ns).getD t 0 % 8).toNat
def lgl (i : Nat) : Addr := 353 + i
theorem getD9 (ns : List Int) {j : Nat} (hj : j < 9) : ((nums9 ns).map V.int)[j]? = some (.int ((nums9 ns).getD j 0)) := by
  have := nums9_len ns
  rw [List.getElem?_map, List.getD_eq_getElem?_getD, List.getElem?_eq_getElem (by omega)]
  rfl
/-- what is laid at first -/
structure PA (ns : List Int) (σ : St) (nu la ro to tr si : Nat) : Prop where
  ce : Cells σ
  c11 : σ[11]? = some (.cell (some (.ref nu)))
  hnu : σ[nu]? = some (.list ((nums9 ns).map .int))
  c8 : σ[8]? = some (.cell (some (.ref la)))
  hla : σ[la]? = some (.list [.glob (lgl (tbl ns 0)), .glob (lgl (tbl ns 1)), .glob (lgl (tbl ns 2))])
  c7 : σ[7]? = some (.cell (some (.ref ro)))
  c6 : σ[6]? = some (.cell (some (.ref to)))
theorem segA1 (sa : Addr) (ns : List Int) (hl : ns.length ≤ 63) (call : CallF) {b : SF} {P : Fl → List (Option V) → St → Prop} {x1 x2 x3 : Option V} {lo : List (Option V)} (hlo : lo[0]? = some (some (.glob sa)))
    (hb : ∀ σ nu, Cells σ → σ[11]? = some (.cell (some (.ref nu))) → σ[nu]? = some (.list ((nums9 ns).map .int)) → WS (b ⟨lo, CL⟩ σ) P) :
    WS (consL (asgC 11 (biE (listV T) (consS (scrE sa ns 0 9) nilS)))
 (consL (augC .add 11 (biE (listV T) (consS (sliceE T (gloE (.glob 352)) (some (biE (lenV T) (consS (celE 11) nilS))) none) nilS))) b) ⟨lo, CL⟩ (List.replicate 12 (.cell none))) P := by
  have C0 : Cells (List.replicate 12 (.cell none)) := fun j hj => ⟨none, by rw [List.getElem?_replicate, if_pos hj]⟩
  have l0 : (List.replicate 12 (O.cell none)).length = 12 := by simp
  generalize (List.replicate 12 (O.cell none)) = σ0 at *
  refine WS.setC (WR.biE (WR.consS ?_))
  have e1 : scrE sa ns 0 9 ⟨lo, CL⟩ σ0 = some (.ok (.ref σ0.length) (σ0 ++ [.list ((ns.take 9).map .int)])) := by
    simp only [scrE, hlo, Option.join_some]
    rw [if_pos ⟨by trivial, by decide, by omega⟩]
    rfl
  refine WR.of_eq e1 (WR.nilS ?_)
  have g1 := getElem?_len σ0 (.list ((ns.take 9).map .int))
  have C1 := C0.app [.list ((ns.take 9).map .int)]
  generalize σ0 ++ [.list ((ns.take 9).map .int)] = σ1 at *
  simp only [listV, g1, WR.ok]
  have g2 := getElem?_len σ1 (.list ((ns.take 9).map .int))
  have C2 := C1.app [.list ((ns.take 9).map .int)]
  generalize σ1 ++ [.list ((ns.take 9).map .int)] = σ2 at *
  generalize σ1.length = nu at *
  refine ⟨C2, ?_⟩
  have h11 : nu ≠ 11 := by
    obtain ⟨o, e⟩ := C2 11 (by omega)
    exact ne_of_get g2 e (by simp)
  have C3 := C2.set (j := 11) (by omega) (some (.ref nu))
  have c3 : (σ2.set 11 (.cell (some (.ref nu))))[11]? = some (.cell (some (.ref nu))) := by
    obtain ⟨o, e⟩ := C2 11 (by omega)
    exact get_set e
  have g3 := get_set_ne (o' := .cell (some (.ref nu))) (Ne.symm h11) g2
  generalize σ2.set 11 (.cell (some (.ref nu))) = σ3 at *
  -- the rest of the own ones
  have sl : ∃ v σ4, sliceE T (gloE (.glob 352)) (some (biE (lenV T) (consS (celE 11) nilS))) none ⟨lo, CL⟩ σ3 = some (.ok v σ4) ∧ Keep (fun _ => False) σ3 σ4 ∧ ∀ σ5, Keep (fun _ => False) σ4 σ5 → listV T [v] σ5 = some (.ok (.ref σ5.length) (σ5 ++ [.list ((own9.drop (ns.take 9).length).map .int)])) := by
    have hlen : (ns.take 9).length ≤ 9 := by rw [List.length_take]; omega
    have e2 : partE (some (biE (lenV T) (consS (celE 11) nilS))) ⟨lo, CL⟩ σ3 = some (.ok (.int (ns.take 9).length) σ3) := by
      simp only [partE, biE, consS, nilS, celE, CL, List.getElem?_cons_succ, List.getElem?_cons_zero, Option.bind_some, c3, bindR, lenV, g3, List.length_map]
    rcases Nat.eq_zero_or_pos (ns.take 9).length with h0 | h0
    · refine ⟨.glob 352, σ3, ?_, Keep.refl _ _, fun σ5 K => ?_⟩
      · simp only [sliceE, gloE, bindR, e2]
        simp only [partE, bindR, sliceV, T_352, Option.bind_some]
        rw [if_pos (by omega)]
      · simp only [listV, T_352, Option.map_some]
        rw [h0]; rfl
    · refine ⟨.ref σ3.length, σ3 ++ [.tup ((own9.map V.int).drop ((ns.take 9).length : Int).toNat)], ?_, Keep.app _ _ _, fun σ5 K => ?_⟩
      · simp only [sliceE, gloE, bindR, e2]
        simp only [partE, bindR, sliceV, T_352, Option.bind_some]
        rw [if_neg (by omega), if_pos ⟨by omega, by simp only [List.length_map, own9, List.length_cons, List.length_nil]; omega⟩]
      · have := K.getF (getElem?_len σ3 (.tup ((own9.map V.int).drop ((ns.take 9).length : Int).toNat)))
        simp only [listV, this]
        rw [Int.toNat_natCast, List.map_drop]
  obtain ⟨v, σ4, sl1, K4, sl2⟩ := sl
  refine WS.cons (R := fun lo' σ' => lo' = lo ∧ Cells σ' ∧ σ'[11]? = some (.cell (some (.ref nu))) ∧ σ'[nu]? = some (.list ((nums9 ns).map .int))) ?_ ?_
  · have C4 := C3.keep K4 fun _ _ h => h
    have c4 := K4.getF c3
    have g4 := K4.getF g3
    have s5 := sl2 σ4 (Keep.refl _ _)
    have g5 := getElem?_len σ4 (.list ((own9.drop (ns.take 9).length).map .int))
    have C5 := C4.app [.list ((own9.drop (ns.take 9).length).map .int)]
    have c5 := get_app (τ := [.list ((own9.drop (ns.take 9).length).map .int)]) c4
    have n5 := get_app (τ := [.list ((own9.drop (ns.take 9).length).map .int)]) g4
    have e5 : biE (listV T) (consS (sliceE T (gloE (.glob 352)) (some (biE (lenV T) (consS (celE 11) nilS))) none) nilS) ⟨lo, CL⟩ σ3 = some (.ok (.ref σ4.length) (σ4 ++ [.list ((own9.drop (ns.take 9).length).map .int)])) := by
      simp only [biE, consS, nilS, bindR, sl1, s5]
    generalize σ4 ++ [.list ((own9.drop (ns.take 9).length).map .int)] = σ5 at *
    have m1 : (σ5.set nu (.list ((ns.take 9).map .int ++ (own9.drop (ns.take 9).length).map .int)))[11]? = some (.cell (some (.ref nu))) := get_set_ne h11 c5
    have hz : ((ns.take 9).map V.int).length + ((own9.drop (ns.take 9).length).map V.int).length ≤ 16777216 := by
      simp only [List.length_map, List.length_drop, List.length_take, own9, List.length_cons, List.length_nil]; omega
    unfold augC
    simp only [CL, List.getElem?_cons_succ, List.getElem?_cons_zero, Option.bind_some, c3, e5, bindE, inpV, n5, g5, hz, if_true, cellAtV, m1, Option.map_some]
    refine ⟨_, _, _, rfl, rfl, rfl, ?_, ?_, ?_⟩
    · refine Cells.set ?_ (by omega) _
      exact C5.keep (Keep.set (S := (· = nu)) n5 rfl rfl) fun j hj e => by
        obtain ⟨o, ho⟩ := C5 j hj
        exact ne_of_get n5 ho (by simp) (Eq.symm e)
    · exact get_set m1
    · refine get_set_ne (Ne.symm h11) ?_
      have := get_set (o' := .list ((ns.take 9).map .int ++ (own9.drop (ns.take 9).length).map .int)) n5
      rw [this, ← List.map_append]; rfl
  · rintro lo' σ' ⟨rfl, h1, h2, h3⟩
    exact hb σ' nu h1 h2 h3
end L3
end Mine

end
noncomputable section
open PySem PySem.W PyProof.Rows
set_option linter.unusedVariables false
set_option linter.unusedSimpArgs false
set_option autoImplicit false
set_option Elab.async false
set_option maxRecDepth 100000
set_option maxHeartbeats 1000000
namespace Mine
namespace L3
theorem T_361 : T.tups 361 = some [.glob 353, .glob 354, .glob 355, .glob 356, .glob 357, .glob 358, .glob 359, .glob 360] := rfl
theorem tbl_lt (ns : List Int) (t : Nat) : tbl ns t < 8 := by unfold tbl; omega
theorem glob8 : ∀ i, i < 8 → ([V.glob 353, .glob 354, .glob 355, .glob 356, .glob 357, .glob 358, .glob 359, .glob 360] : List V)[i]? = some (.glob (lgl i)) := by
  intro i hi
  match i, hi with
  | 0, _ => rfl
  | 1, _ => rfl
  | 2, _ => rfl
  | 3, _ => rfl
  | 4, _ => rfl
  | 5, _ => rfl
  | 6, _ => rfl
  | 7, _ => rfl
structure PA0 (ns : List Int) (σ : St) (nu la ro to tr si : Nat) : Prop extends PA ns σ nu la ro to tr si where
  r0 : σ[ro]? = some (.list [])
  t0 : σ[to]? = some (.list [])
  s0 : σ[si]? = some (.list [])
  e0 : σ[tr]? = some (.list [])
  nd : [nu, la, ro, to, tr, si].Nodup
theorem segA2 (sa : Addr) (ns : List Int) (call : CallF) {b : SF} {P : Fl → List (Option V) → St → Prop} {σ : St} {nu : Nat} (C0 : Cells σ) (h11 : σ[11]? = some (.cell (some (.ref nu)))) (hnu : σ[nu]? = some (.list ((nums9 ns).map .int)))
    (hb : ∀ σ' la ro to tr si, PA0 ns σ' nu la ro to tr si → WS (b ⟨[some (.glob sa), some (.glob 362), some (.ref tr), some (.ref si), none, none, none, none, none, none, none, none, none, none, none, none, none, none, none, none], CL⟩ σ') P) :
    WS (consL (asgTE [tgC 10, tgL 1] (tupE (consS (gloE (.glob 361)) (consS (gloE (.glob 362)) nilS))))
 (consL (asgC 8 (compE T false (biE rangeV (consS (intE 3) nilS)) 1 0 [10, 11] (tgL 0) none (subE T (celE 0) (binE .mod (subE T (celE 1) (locE 0)) (intE 8)))))
 (consL (asgTE [tgL 2, tgL 3, tgC 7, tgC 6] (tupE (consS (listE nilS) (consS (listE nilS) (consS (listE nilS) (consS (listE nilS) nilS)))))) b)) ⟨[some (.glob sa), none, none, none, none, none, none, none, none, none, none, none, none, none, none, none, none, none, none, none], CL⟩ σ) P := by
  -- the tables
  refine WS.cons (R := fun lo σ' => lo = [some (.glob sa), some (.glob 362), none, none, none, none, none, none, none, none, none, none, none, none, none, none, none, none, none, none] ∧ Cells σ' ∧ σ'[11]? = some (.cell (some (.ref nu))) ∧ σ'[10]? = some (.cell (some (.glob 361))) ∧ σ'[nu]? = some (.list ((nums9 ns).map .int))) ?_ ?_
  · have g1 := getElem?_len σ (.tup [.glob 361, .glob 362])
    have C1 := C0.app [.tup [.glob 361, .glob 362]]
    have a1 := get_app (τ := [.tup [.glob 361, .glob 362]]) h11
    have a2 := get_app (τ := [.tup [.glob 361, .glob 362]]) hnu
    have e1 : tupE (consS (gloE (.glob 361)) (consS (gloE (.glob 362)) nilS)) ⟨[some (.glob sa), none, none, none, none, none, none, none, none, none, none, none, none, none, none, none, none, none, none, none], CL⟩ σ = some (.ok (.ref σ.length) (σ ++ [.tup [.glob 361, .glob 362]])) := rfl
    unfold asgTE
    rw [e1]
    generalize σ ++ [.tup [.glob 361, .glob 362]] = σ1 at *
    obtain ⟨o, h10⟩ := C1 10 (by omega)
    simp only [bindE, tgT, g1, stores, tgC_eq (le := ⟨_, CL⟩) (j := 10) rfl h10, tgL, setLo, List.set_cons_succ, List.set_cons_zero, Option.bind_some, Option.map_some]
    refine ⟨_, _, _, rfl, rfl, rfl, C1.set (by omega) _, get_set_ne (by omega) a1, get_set h10, get_set_ne ?_ a2⟩
    exact Ne.symm (ne_of_get a2 h10 (by simp))
  rintro lo σ1 ⟨rfl, C1, a11, a10, anu⟩
  -- the towns' lanes
  refine WS.setC ?_
  have g2 := getElem?_len σ1 (.rng 0 3)
  have K2 := Keep.app (fun _ => False) σ1 [.rng 0 3]
  generalize hL : ([some (.glob sa), some (.glob 362), none, none, none, none, none, none, none, none, none, none, none, none, none, none, none, none, none, none] : List (Option V)) = lo at *
  refine WR.compE (σ1 := σ1 ++ [.rng 0 3]) (a := .ref σ1.length) (kd := .rng 0) (len := 3) rfl (kd_rng g2 rfl rfl rfl) (.inl rfl)
    (fun j lo2 σ' ys => Keep (fun _ => False) σ1 σ' ∧ σ'[σ1.length]? = some (.rng 0 3) ∧ lo2.length = 1 ∧ ys = (List.range j).map fun t => .glob (lgl (tbl ns t))) ?_ ?_ ?_ ?_
  · exact ⟨by simpa using K2, by simpa using g2, rfl, rfl⟩
  · rintro j lo2 σ' ys ⟨-, g, -, -⟩
    exact kd_rng g rfl rfl rfl
  · rintro j lo2 σ' ys hj ⟨K, g, hlo2, rfl⟩
    obtain ⟨x0, rfl⟩ : ∃ x0, lo2 = [x0] := List.length_eq_one_iff.1 hlo2
    refine ⟨by simp; omega, .int j, [some (.int j)], σ', ?_, rfl, ?_⟩
    · rw [it_rng g, Int.zero_add]
    refine WR.ok.2 ?_
    rw [if_pos rfl]
    refine WR.subE (WR.celE rfl (K.getF a10) (WR.binE (WR.subE (WR.celE rfl (K.getF a11) (WR.locE rfl (WR.getL (K.getF anu) j rfl (getD9 ns (by omega)) (WR.intE (WR.mod (by decide) (WR.getG T_361 (tbl ns j) ?_ (glob8 _ (tbl_lt ns j)) ?_))))))))) 
    · rw [Int.fmod_eq_emod_of_nonneg _ (by decide)]; unfold tbl; omega
    · exact ⟨K, g, rfl, by rw [List.range_succ, List.map_append]; rfl⟩
  rintro lo2 σ2 ys ⟨K3, g3, -, rfl⟩
  have K4 := K3.addF (Keep.app (fun _ => False) σ2 [.list ((List.range 3).map fun t => .glob (lgl (tbl ns t)))])
  have g4 := getElem?_len σ2 (.list ((List.range 3).map fun t => .glob (lgl (tbl ns t))))
  have l4 : σ1.length ≤ σ2.length := K3.len
  generalize σ2.length = la at *
  generalize σ2 ++ [.list ((List.range 3).map fun t => .glob (lgl (tbl ns t)))] = σ3 at *
  have C3 := C1.keep K4 fun _ _ h => h
  refine ⟨C3, ?_⟩
  have b11 := K4.getF a11
  have bnu := K4.getF anu
  obtain ⟨o8, h8⟩ := C3 8 (by omega)
  have C5 := C3.set (j := 8) (by omega) (some (.ref la))
  have c8 := get_set (o' := .cell (some (.ref la))) h8
  have c11 := get_set_ne (o' := .cell (some (.ref la))) (by omega : 8 ≠ 11) b11
  have cnu := get_set_ne (o' := .cell (some (.ref la))) (Ne.symm (ne_of_get bnu h8 (by simp))) bnu
  have cla := get_set_ne (o' := .cell (some (.ref la))) (Ne.symm (ne_of_get g4 h8 (by simp))) g4
  have nn : nu < la := Nat.lt_of_lt_of_le (lt_of_get anu) l4
  generalize σ3.set 8 (.cell (some (.ref la))) = σ4 at *
  -- four empty lists
  subst hL
  have e5 : tupE (consS (listE nilS) (consS (listE nilS) (consS (listE nilS) (consS (listE nilS) nilS)))) ⟨[some (.glob sa), some (.glob 362), none, none, none, none, none, none, none, none, none, none, none, none, none, none, none, none, none, none], CL⟩ σ4 = some (.ok (.ref (σ4.length + 4)) (σ4 ++ [.list [], .list [], .list [], .list [], .tup [.ref σ4.length, .ref (σ4.length + 1), .ref (σ4.length + 2), .ref (σ4.length + 3)]])) := by
    simp [tupE, consS, nilS, listE, bindR]
  have K6 := Keep.app (fun _ => False) σ4 [.list [], .list [], .list [], .list [], .tup [.ref σ4.length, .ref (σ4.length + 1), .ref (σ4.length + 2), .ref (σ4.length + 3)]]
  have f0 : (σ4 ++ [O.list [], .list [], .list [], .list [], .tup [.ref σ4.length, .ref (σ4.length + 1), .ref (σ4.length + 2), .ref (σ4.length + 3)]])[σ4.length]? = some (.list []) := by simp
  have f1 : (σ4 ++ [O.list [], .list [], .list [], .list [], .tup [.ref σ4.length, .ref (σ4.length + 1), .ref (σ4.length + 2), .ref (σ4.length + 3)]])[σ4.length + 1]? = some (.list []) := by simp
  have f2 : (σ4 ++ [O.list [], .list [], .list [], .list [], .tup [.ref σ4.length, .ref (σ4.length + 1), .ref (σ4.length + 2), .ref (σ4.length + 3)]])[σ4.length + 2]? = some (.list []) := by simp
  have f3 : (σ4 ++ [O.list [], .list [], .list [], .list [], .tup [.ref σ4.length, .ref (σ4.length + 1), .ref (σ4.length + 2), .ref (σ4.length + 3)]])[σ4.length + 3]? = some (.list []) := by simp
  have f4 : (σ4 ++ [O.list [], .list [], .list [], .list [], .tup [.ref σ4.length, .ref (σ4.length + 1), .ref (σ4.length + 2), .ref (σ4.length + 3)]])[σ4.length + 4]? = some (.tup [.ref σ4.length, .ref (σ4.length + 1), .ref (σ4.length + 2), .ref (σ4.length + 3)]) := by simp
  have l4la : la < σ4.length := lt_of_get cla
  have C6 := C5.keep K6 fun _ _ h => h
  have d8 := K6.getF c8
  have d11 := K6.getF c11
  have dnu := K6.getF cnu
  have dla := K6.getF cla
  have h12 : 11 < σ4.length := lt_of_get c11
  generalize σ4.length = n at *
  generalize (σ4 ++ [O.list [], .list [], .list [], .list [], .tup [.ref n, .ref (n + 1), .ref (n + 2), .ref (n + 3)]]) = σ5 at *
  refine WS.cons (R := fun lo σ' => lo = [some (.glob sa), some (.glob 362), some (.ref n), some (.ref (n + 1)), none, none, none, none, none, none, none, none, none, none, none, none, none, none, none, none] ∧ PA0 ns σ' nu la (n + 2) (n + 3) n (n + 1)) ?_ ?_
  · obtain ⟨o7, h7⟩ := C6 7 (by omega)
    have C7 := C6.set (j := 7) (by omega) (some (.ref (n + 2)))
    obtain ⟨o6, h6⟩ := C7 6 (by omega)
    unfold asgTE
    rw [e5]
    simp only [bindE, tgT, f4, stores, tgL, setLo, List.set_cons_succ, List.set_cons_zero, Option.bind_some]
    simp only [tgC_eq (le := ⟨_, CL⟩) (j := 7) rfl h7, Option.bind_some, tgC_eq (le := ⟨_, CL⟩) (j := 6) rfl h6, Option.map_some]
    have two : ∀ {i : Nat} {o : O}, i ≠ 7 → i ≠ 6 → σ5[i]? = some o → ((σ5.set 7 (.cell (some (.ref (n + 2))))).set 6 (.cell (some (.ref (n + 3)))))[i]? = some o := fun h1 h2 e => get_set_ne (Ne.symm h2) (get_set_ne (Ne.symm h1) e)
    have n11 : nu ≠ 7 ∧ nu ≠ 6 := by
      obtain ⟨a, ha⟩ := C6 6 (by omega)
      exact ⟨ne_of_get dnu h7 (by simp), ne_of_get dnu ha (by simp)⟩
    have l11 : la ≠ 7 ∧ la ≠ 6 := by
      obtain ⟨a, ha⟩ := C6 6 (by omega)
      exact ⟨ne_of_get dla h7 (by simp), ne_of_get dla ha (by simp)⟩
    refine ⟨_, _, _, rfl, rfl, rfl, ⟨C7.set (by omega) _, two (by omega) (by omega) d11, two n11.1 n11.2 dnu, two (by omega) (by omega) d8, two l11.1 l11.2 dla, get_set_ne (by omega) (get_set h7), get_set h6⟩, two (by omega) (by omega) f2, two (by omega) (by omega) f3, two (by omega) (by omega) f1, two (by omega) (by omega) f0, ?_⟩
    simp only [List.nodup_cons, List.mem_cons, List.not_mem_nil, or_false, not_or, not_false_eq_true, List.nodup_nil, and_true]
    omega
  · rintro lo σ' ⟨rfl, h⟩
    exact hb σ' la _ _ _ _ h
end L3
end Mine

end
noncomputable section
open PySem PySem.W PyProof.Rows
set_option linter.unusedVariables false
set_option linter.unusedSimpArgs false
set_option autoImplicit false
set_option Elab.async false
set_option maxRecDepth 100000
set_option maxHeartbeats 1000000
namespace Mine
namespace L3
open R3 (lane outl)
/-- the places of one road -/
def blk (nm : Nat → Int) (m : Int) (i r : Nat) : List (Int × Int) := (List.range (lane i r)).map fun k : Nat => (256 * (k : Int) / (m * (lane i r : Int)), nm r)
def rowOf (nm : Nat → Int) (m : Int) (i : Nat) : List (Int × Int) := blk nm m i 0 ++ blk nm m i 1 ++ blk nm m i 2 ++ blk nm m i 3
def ksOf (nm : Nat → Int) (m : Int) (i : Nat) : List (Int × Int) := ((List.range 4).filter fun r => lane i r != 0).map fun r => (nm r, m * (lane i r : Int))
def roadOf (nm : Nat → Int) (x : Int) : Nat := if x = nm 0 then 0 else if x = nm 1 then 1 else if x = nm 2 then 2 else 3
def Inj4 (nm : Nat → Int) : Prop := ∀ r s, r < 4 → s < 4 → nm r = nm s → r = s
theorem roadOf_nm {nm : Nat → Int} (h : Inj4 nm) {r : Nat} (hr : r < 4) : roadOf nm (nm r) = r := by
  have a := fun s hs e => h r s hr hs e
  unfold roadOf
  have : r = 0 ∨ r = 1 ∨ r = 2 ∨ r = 3 := by omega
  rcases this with rfl | rfl | rfl | rfl
  · simp
  · rw [if_neg (fun e => by have := h 1 0 (by omega) (by omega) e; omega), if_pos rfl]
  · rw [if_neg (fun e => by have := h 2 0 (by omega) (by omega) e; omega), if_neg (fun e => by have := h 2 1 (by omega) (by omega) e; omega), if_pos rfl]
  · rw [if_neg (fun e => by have := h 3 0 (by omega) (by omega) e; omega), if_neg (fun e => by have := h 3 1 (by omega) (by omega) e; omega), if_neg (fun e => by have := h 3 2 (by omega) (by omega) e; omega)]
theorem roadOf_lt (nm : Nat → Int) (x : Int) : roadOf nm x < 4 := by
  unfold roadOf
  repeat (split; omega)
  omega
theorem blk_len (nm : Nat → Int) (m : Int) (i r : Nat) : (blk nm m i r).length = lane i r := by simp [blk]
theorem row_len (nm : Nat → Int) (m : Int) (i : Nat) : (rowOf nm m i).length = outl i := by
  simp only [rowOf, List.length_append, blk_len, outl]
theorem blk_snd {nm : Nat → Int} {m : Int} {i r : Nat} {p : Int × Int} (h : p ∈ blk nm m i r) : p.2 = nm r := by
  obtain ⟨k, _, rfl⟩ := List.mem_map.1 h
  rfl
theorem blk_filter {nm : Nat → Int} (hn : Inj4 nm) {m : Int} {i r s : Nat} (hr : r < 4) (hs : s < 4) : (blk nm m i r).filter (fun p => p.2 == nm s) = if r = s then blk nm m i r else [] := by
  split
  · rename_i e; subst e
    rw [List.filter_eq_self]
    intro p hp
    simp [blk_snd hp]
  · rename_i e
    rw [List.filter_eq_nil_iff]
    intro p hp
    rw [blk_snd hp]
    simp only [beq_iff_eq]
    exact fun x => e (hn r s hr hs x)
theorem row_filter {nm : Nat → Int} (hn : Inj4 nm) {m : Int} {i s : Nat} (hs : s < 4) : (rowOf nm m i).filter (fun p => p.2 == nm s) = blk nm m i s := by
  simp only [rowOf, List.filter_append, blk_filter hn (show 0 < 4 by omega) hs, blk_filter hn (show 1 < 4 by omega) hs, blk_filter hn (show 2 < 4 by omega) hs, blk_filter hn (show 3 < 4 by omega) hs]
  have : s = 0 ∨ s = 1 ∨ s = 2 ∨ s = 3 := by omega
  rcases this with rfl | rfl | rfl | rfl <;> simp
theorem div_strict {w : Int} (h0 : 0 < w) (h1 : w ≤ 256) {a b : Nat} (h : a < b) : 256 * (a : Int) / w < 256 * (b : Int) / w := by
  have h2 : 256 * (a : Int) + w * 1 ≤ 256 * (b : Int) := by omega
  have h3 := Int.ediv_le_ediv h0 h2
  rw [Int.add_mul_ediv_left _ _ (by omega)] at h3
  omega
theorem blk_sorted (nm : Nat → Int) {m : Int} {i r : Nat} (h0 : 0 < m) (h1 : m * (lane i r : Int) ≤ 256) : (blk nm m i r).Pairwise fun p q => lexB p q = true := by
  unfold blk
  rw [List.pairwise_map]
  refine List.Pairwise.imp_of_mem ?_ (List.pairwise_lt_range)
  intro a b ha hb hab
  rw [lexB_iff]
  left
  dsimp only
  rw [List.mem_range] at hb
  refine div_strict (Int.mul_pos h0 (by omega)) h1 hab
theorem nodup_of_sorted {l : List (Int × Int)} (h : l.Pairwise fun p q => lexB p q = true) : l.Nodup := by
  refine h.imp ?_
  intro a b hab e
  subst e
  rw [lexB_self] at hab
  cases hab
theorem row_nodup {nm : Nat → Int} (hn : Inj4 nm) {m : Int} {i : Nat} (h0 : 0 < m) (h1 : ∀ r, r < 4 → m * (lane i r : Int) ≤ 256) : (rowOf nm m i).Nodup := by
  have d : ∀ r s, r < 4 → s < 4 → r ≠ s → ∀ a ∈ blk nm m i r, ∀ b ∈ blk nm m i s, a ≠ b := by
    intro r s hr hs hne a ha b hb e
    subst e
    exact hne (hn r s hr hs (by rw [← blk_snd ha, ← blk_snd hb]))
  have b := fun r hr => nodup_of_sorted (blk_sorted nm h0 (h1 r hr))
  unfold rowOf
  rw [List.nodup_append, List.nodup_append, List.nodup_append]
  refine ⟨⟨⟨b 0 (by omega), b 1 (by omega), d 0 1 (by omega) (by omega) (by omega)⟩, b 2 (by omega), ?_⟩, b 3 (by omega), ?_⟩
  · intro a ha c hc
    rcases List.mem_append.1 ha with ha | ha
    · exact d 0 2 (by omega) (by omega) (by omega) a ha c hc
    · exact d 1 2 (by omega) (by omega) (by omega) a ha c hc
  · intro a ha c hc
    rcases List.mem_append.1 ha with ha | ha
    · rcases List.mem_append.1 ha with ha | ha
      · exact d 0 3 (by omega) (by omega) (by omega) a ha c hc
      · exact d 1 3 (by omega) (by omega) (by omega) a ha c hc
    · exact d 2 3 (by omega) (by omega) (by omega) a ha c hc
/-- sorting a row of two or three -/
theorem sort_row {ps : List (Int × Int)} (hl : ps.length = 2 ∨ ps.length = 3) (nd : ps.Nodup) : evOk ps.length (pairLt ps) (kas_sort ps.length) = true ∧ (sortOrd ps).length = ps.length ∧ (∀ i ∈ sortOrd ps, i < ps.length) ∧ (sorted ps).Perm ps ∧ (sorted ps).Pairwise fun p q => lexB p q = true := by
  match ps, hl with
  | [x, y], _ =>
    simp only [List.nodup_cons, List.mem_cons, List.not_mem_nil, or_false, not_or] at nd
    exact sort2 nd.1
  | [x, y, z], _ =>
    simp only [List.nodup_cons, List.mem_cons, List.not_mem_nil, or_false, not_or] at nd
    exact sort3 nd.1.1 nd.1.2 nd.2.1
theorem sorted_uniq : ∀ {l l' : List (Int × Int)}, l.Perm l' → (l.Pairwise fun p q => lexB p q = true) → (l'.Pairwise fun p q => lexB p q = true) → l = l'
  | [], l', h, _, _ => (h.nil_eq)
  | a :: l, [], h, _, _ => by have := h.length_eq; cases this
  | a :: l, b :: l', h, h1, h2 => by
    have e : a = b := by
      have ha : a ∈ b :: l' := h.subset (List.mem_cons_self ..)
      have hb : b ∈ a :: l := h.symm.subset (List.mem_cons_self ..)
      rcases List.mem_cons.1 ha with e | ha
      · exact e
      · rcases List.mem_cons.1 hb with e | hb
        · exact e.symm
        · have x := (List.pairwise_cons.1 h1).1 b hb
          have y := (List.pairwise_cons.1 h2).1 a ha
          have z := lexB_trans x y
          rw [lexB_self] at z; cases z
    subst e
    rw [sorted_uniq ((List.perm_cons a).1 h) (List.pairwise_cons.1 h1).2 (List.pairwise_cons.1 h2).2]
/-- the round of a town -/
theorem round_ok {nm : Nat → Int} (hn : Inj4 nm) {m P : Int} {i : Nat} (hi : i < 8) (h0 : 0 < m) (hP : P * m = 256) (h1 : ∀ r, r < 4 → m * (lane i r : Int) ≤ 256) :
    Round (ksOf nm m i) P (fun x => lane i (roadOf nm x)) (sorted (rowOf nm m i)) := by
  have hl : (rowOf nm m i).length = 2 ∨ (rowOf nm m i).length = 3 := by rw [row_len]; exact R3.out23 i hi
  obtain ⟨-, -, -, hp, hs⟩ := sort_row hl (row_nodup hn h0 h1)
  have ks : ∀ k ∈ ksOf nm m i, ∃ r, r < 4 ∧ lane i r ≠ 0 ∧ k = (nm r, m * (lane i r : Int)) := by
    intro k hk
    obtain ⟨r, hr, rfl⟩ := List.mem_map.1 hk
    rw [List.mem_filter, List.mem_range] at hr
    exact ⟨r, hr.1, by simpa using hr.2, rfl⟩
  refine ⟨?_, ?_, ?_, hs, ?_, ?_, ?_⟩
  · unfold ksOf
    rw [List.map_map]
    unfold List.Nodup
    rw [List.pairwise_map]
    refine List.Pairwise.imp_of_mem ?_ ((List.nodup_range (n := 4)).filter fun r => lane i r != 0)
    intro a b ha hb hne e
    rw [List.mem_filter, List.mem_range] at ha hb
    exact hne (hn a b ha.1 hb.1 e)
  · intro k hk
    obtain ⟨r, hr, hl, rfl⟩ := ks k hk
    exact Int.mul_pos h0 (by omega)
  · intro k hk
    obtain ⟨r, hr, hl, rfl⟩ := ks k hk
    dsimp only
    rw [roadOf_nm hn hr, ← Int.mul_assoc, hP]
  · intro k hk
    obtain ⟨r, hr, hl, rfl⟩ := ks k hk
    dsimp only
    rw [roadOf_nm hn hr]
    refine sorted_uniq ?_ (hs.filter _) (blk_sorted nm h0 (h1 r hr))
    have := hp.filter (fun p => p.2 == nm r)
    rw [row_filter hn hr] at this
    exact this
  · intro p hp'
    have := hp.subset hp'
    simp only [rowOf, List.mem_append] at this
    have mk : ∀ r, r < 4 → p ∈ blk nm m i r → ∃ k ∈ ksOf nm m i, k.1 = p.2 := by
      intro r hr hb
      refine ⟨(nm r, m * (lane i r : Int)), ?_, (blk_snd hb).symm⟩
      refine List.mem_map.2 ⟨r, ?_, rfl⟩
      rw [List.mem_filter, List.mem_range]
      refine ⟨hr, ?_⟩
      have hle := List.length_pos_of_mem hb
      rw [blk_len] at hle
      simp; omega
    rcases this with ((h | h) | h) | h
    · exact mk 0 (by omega) h
    · exact mk 1 (by omega) h
    · exact mk 2 (by omega) h
    · exact mk 3 (by omega) h
  · rw [hp.length_eq, row_len]
    rcases R3.out23 i hi with h | h <;> omega
end L3
end Mine

end
noncomputable section
open PySem PySem.W PyProof.Rows
set_option linter.unusedVariables false
set_option linter.unusedSimpArgs false
set_option autoImplicit false
set_option Elab.async false
set_option maxRecDepth 100000
set_option maxHeartbeats 1000000
namespace Mine
namespace L3
open R3 (lane outl)
def nq (ns : List Int) (j : Nat) : Int := (nums9 ns).getD j 0
def mark (ns : List Int) (t r : Nat) : Int := ((r : Int) * (1 + (nq ns 3 + t) % 4) + nq ns 4) % 5
def num (ns : List Int) (t r : Nat) : Int := if mark ns t r < 2 then mark ns t r - 2 else mark ns t r - 1
def me (ns : List Int) (t : Nat) : Nat := ((nq ns 5 + t * nq ns 6) % 8).toNat
def meas (ns : List Int) (t : Nat) : Int := ((2 ^ me ns t : Nat) : Int)
theorem mark_rng (ns : List Int) (t r : Nat) : 0 ≤ mark ns t r ∧ mark ns t r < 5 := by unfold mark; omega
theorem num_ne (ns : List Int) (t r : Nat) : num ns t r ≠ 0 := by
  have := mark_rng ns t r
  unfold num; split <;> omega
theorem num_inj (ns : List Int) (t : Nat) : Inj4 (num ns t) := by
  intro r s hr hs e
  have e1 : mark ns t r = mark ns t s := by
    have := mark_rng ns t r
    have := mark_rng ns t s
    unfold num at e
    split at e <;> split at e <;> omega
  unfold mark at e1
  have ha : (1 + (nq ns 3 + t) % 4 = 1) ∨ (1 + (nq ns 3 + t) % 4 = 2) ∨ (1 + (nq ns 3 + t) % 4 = 3) ∨ (1 + (nq ns 3 + t) % 4 = 4) := by omega
  rcases ha with h | h | h | h <;> rw [h] at e1 <;> omega
theorem me_lt (ns : List Int) (t : Nat) : me ns t < 8 := by unfold me; omega
theorem lane_le : ∀ i, i < 8 → ∀ r, r < 4 → lane i r ≤ 2 := by decide
theorem meas_pow : ∀ k, k < 8 → 1 ≤ 2 ^ k ∧ 2 ^ k ≤ 128 ∧ (256 / 2 ^ k) * 2 ^ k = 256 := by decide
theorem meas_rng (ns : List Int) (t : Nat) : 1 ≤ meas ns t ∧ meas ns t ≤ 128 := by
  have := meas_pow _ (me_lt ns t)
  unfold meas; omega
def per (ns : List Int) (t : Nat) : Int := ((256 / 2 ^ me ns t : Nat) : Int)
theorem per_mul (ns : List Int) (t : Nat) : per ns t * meas ns t = 256 := by
  have := (meas_pow _ (me_lt ns t)).2.2
  unfold per meas
  exact_mod_cast this
theorem wgt_rng (ns : List Int) (t : Nat) {i r : Nat} (hi : i < 8) (hr : r < 4) : meas ns t * (lane i r : Int) ≤ 256 := by
  have a := meas_rng ns t
  have b := lane_le i hi r hr
  have : lane i r = 0 ∨ lane i r = 1 ∨ lane i r = 2 := by omega
  rcases this with h | h | h <;> rw [h] <;> simp <;> omega
theorem wgt_pos (ns : List Int) (t : Nat) {i r : Nat} (h : lane i r ≠ 0) : 1 ≤ meas ns t * (lane i r : Int) := by
  have a := meas_rng ns t
  have := Int.mul_pos (show 0 < meas ns t by omega) (show (0 : Int) < (lane i r : Int) by omega)
  omega
theorem T_lane : ∀ i, i < 8 → T.tups (lgl i) = some ((List.range 4).map fun r => .int (lane i r)) := by
  intro i hi
  match i, hi with
  | 0, _ => rfl
  | 1, _ => rfl
  | 2, _ => rfl
  | 3, _ => rfl
  | 4, _ => rfl
  | 5, _ => rfl
  | 6, _ => rfl
  | 7, _ => rfl
theorem T_362 : T.tups 362 = some ((List.range 8).map fun k => .int ((2 ^ k : Nat) : Int)) := rfl
def ksU (ns : List Int) (t j : Nat) : List (Int × Int) := ((List.range j).filter fun r => lane (tbl ns t) r != 0).map fun r => (num ns t r, meas ns t * (lane (tbl ns t) r : Int))
def kvU (ns : List Int) (t j : Nat) : List (Int × V) := ((List.range j).filter fun r => lane (tbl ns t) r != 0).map fun r => (num ns t r, .int r)
def rowU (ns : List Int) (t j : Nat) : List (Int × Int) := (List.range j).flatMap (blk (num ns t) (meas ns t) (tbl ns t))
def PairAt (σ : St) (v : V) (p : Int × Int) : Prop := ∃ x, v = .ref x ∧ σ[x]? = some (.tup [.int p.1, .int p.2])
theorem PairAt.keep {S : Nat → Prop} {σ σ' : St} {v : V} {p : Int × Int} (h : PairAt σ v p) (K : Keep S σ σ') : PairAt σ' v p := by
  obtain ⟨x, e, h⟩ := h
  exact ⟨x, e, K.getX h rfl⟩
/-- a town under way: its first j roads are laid -/
structure BI (ns : List Int) (t B : Nat) (σB σ : St) (ta : TA) (s w j : Nat) (its : List Item) : Prop where
  K : Keep (fun i => i = 4 ∨ i = 5 ∨ B ≤ i) σB σ
  ce : Cells σ
  kf : ∃ kvs, Flat σ ta 0 its kvs ∧ (kvs.find? fun p => p.1 == 0) = some (0, .ref ta.r) ∧ kvs.map (·.1) = 0 :: (ksU ns t j).map (·.1)
  srt : Srt its
  perm : (its.map fun p => (p.2.id, p.2.w)).Perm (ksU ns t j)
  zero : ∀ p ∈ its, p.1 = 0 ∧ p.2.df = 0
  sg : ∃ e, σ[s]? = some (.dict (kvU ns t j) (some e))
  rw : ∃ vs, σ[w]? = some (.list vs) ∧ All2 (PairAt σ) vs (rowU ns t j)
  low : (∀ i ∈ fp ta its, B ≤ i) ∧ B ≤ s ∧ B ≤ w
  off : s ∉ fp ta its ∧ w ∉ fp ta its
/-- what a town's build looks up -/
structure BC (ns : List Int) (t : Nat) (σ : St) (nu la : Nat) : Prop where
  ce : Cells σ
  c11 : σ[11]? = some (.cell (some (.ref nu)))
  hnu : σ[nu]? = some (.list ((nums9 ns).map .int))
  c8 : σ[8]? = some (.cell (some (.ref la)))
  hla : σ[la]? = some (.list [.glob (lgl (tbl ns 0)), .glob (lgl (tbl ns 1)), .glob (lgl (tbl ns 2))])
  c9 : σ[9]? = some (.cell (some (.int t)))
theorem BC.keep {ns : List Int} {t B : Nat} {σ σ' : St} {nu la : Nat} (h : BC ns t σ nu la) (K : Keep (fun i => i = 4 ∨ i = 5 ∨ B ≤ i) σ σ') (hB : σ.length ≤ B) (ce : Cells σ') : BC ns t σ' nu la := by
  obtain ⟨o4, h4⟩ := h.ce 4 (by omega)
  obtain ⟨o5, h5⟩ := h.ce 5 (by omega)
  have g : ∀ i o, σ[i]? = some o → i ≠ 4 → i ≠ 5 → σ'[i]? = some o := fun i o e h1 h2 => K.get e (by have := lt_of_get e; omega)
  exact ⟨ce, g _ _ h.c11 (by omega) (by omega), g _ _ h.hnu (ne_of_get h.hnu h4 (by simp)) (ne_of_get h.hnu h5 (by simp)), g _ _ h.c8 (by omega) (by omega), g _ _ h.hla (ne_of_get h.hla h4 (by simp)) (ne_of_get h.hla h5 (by simp)), g _ _ h.c9 (by omega) (by omega)⟩
/-- a value out of the nine -/
theorem WR.nums {Q : V → St → Prop} {σ : St} {le : Le} {nu j : Nat} {ns : List Int} (hc : le.cl = CL) (h11 : σ[11]? = some (.cell (some (.ref nu)))) (hnu : σ[nu]? = some (.list ((nums9 ns).map .int))) (hj : j < 9) (q : Q (.int (nq ns j)) σ) : WR (Mine.subE T (celE 11) (intE (j : Int)) le σ) Q :=
  WR.subE (WR.celE (k := 11) (by rw [hc]; rfl) h11 (WR.intE (WR.getL hnu j rfl (getD9 ns hj) q)))
/-- a road's lanes -/
theorem WR.lanes {Q : V → St → Prop} {σ : St} {le : Le} {la t r : Nat} {e1 e2 : EF} {ns : List Int} (hc : le.cl = CL) (h8 : σ[8]? = some (.cell (some (.ref la)))) (hla : σ[la]? = some (.list [.glob (lgl (tbl ns 0)), .glob (lgl (tbl ns 1)), .glob (lgl (tbl ns 2))])) (ht : t < 3) (hr : r < 4)
    (h1 : e1 le σ = some (.ok (.int t) σ)) (h2 : e2 le σ = some (.ok (.int r) σ)) (q : Q (.int (lane (tbl ns t) r)) σ) : WR (Mine.subE T (Mine.subE T (celE 8) e1) e2 le σ) Q := by
  refine WR.subE (WR.subE (WR.celE (k := 8) (by rw [hc]; rfl) h8 (WR.of_eq h1 (WR.getL hla t rfl (pick3 (fun t => V.glob (lgl (tbl ns t))) ht) (WR.of_eq h2 (WR.getG (T_lane _ (tbl_lt ns t)) r rfl ?_ q))))))
  rw [List.getElem?_map, List.getElem?_range hr]; rfl
theorem flat_succ (f : Nat → List (Int × Int)) (j : Nat) : (List.range (j + 1)).flatMap f = (List.range j).flatMap f ++ f j := by
  rw [List.range_succ, List.flatMap_append]; simp
end L3
end Mine

end
noncomputable section
open PySem PySem.W PyProof.Rows
set_option linter.unusedVariables false
set_option linter.unusedSimpArgs false
set_option autoImplicit false
set_option Elab.async false
set_option maxRecDepth 100000
set_option maxHeartbeats 1000000
namespace Mine
namespace L3
open R3 (lane outl)
abbrev roadB (call : CallF) : SF := (consL (ifS (truE (subE T (subE T (celE 8) (celE 9)) (locE 8)))
 (consL (asgL 9 (binE .mod (binE .add (binE .mul (locE 8) (binE .add (intE 1) (binE .mod (binE .add (subE T (celE 11) (intE 3)) (celE 9)) (intE 4)))) (subE T (celE 11) (intE 4))) (intE 5)))
 (consL (asgC 5 (iteE (truE (cmpE T call .lt (locE 9) (intE 2))) (binE .sub (locE 9) (intE 2)) (binE .sub (locE 9) (intE 1))))
 (consL (asgC 4 (binE .mul (locE 7) (subE T (subE T (celE 8) (celE 9)) (locE 8))))
 (consL (exprS (methE T call 9 (locE 4) (consS (celE 5) (consS noneE (consS (celE 4) nilS)))))
 (consL (asgI (locE 5) (celE 5) (locE 8))
 (consL (augL .add 6 (compE T false (biE rangeV (consS (subE T (subE T (celE 8) (celE 9)) (locE 8)) nilS)) 1 0 [4, 5] (tgL 0) none (tupE (consS (binE .fdiv (binE .mul (intE 256) (locE 0)) (celE 0)) (consS (celE 1) nilS)))))
 nilL))))))
 nilL)
 nilL)
theorem insert30 {σ : St} {t : TA} {lw : Int} {its : List Item} {kvs : List (Int × V)} (h : Flat σ t lw its kvs) (hk : (kvs.find? fun p => p.1 == 0) = some (0, .ref t.r)) {id w : Int} (hi : (kvs.any fun p => p.1 == id) = false) (hw : 1 ≤ w ∧ w ≤ 256) (hz : its.length < 900) (hy : kvs.length < 900) :
    WR (callN 30 14 [.ref t.a, .int id, .none, .int w] σ) fun v σ' => v = .none ∧ ∃ x : Kid, x.id = id ∧ x.w = w ∧ x.df = 0 ∧ σ.length ≤ x.d ∧ Flat σ' t lw (ins (lw, x) its) (kvs ++ [(id, .ref x.k)]) ∧ Keep (· ∈ fp t its) σ σ' := insert_ok 18 h hk hi hw hz hy
theorem filt_succ (p : Nat → Bool) (j : Nat) : (List.range (j + 1)).filter p = (List.range j).filter p ++ if p j then [j] else [] := by
  rw [List.range_succ, List.filter_append]
  cases h : p j <;> simp [h]
theorem ksU_skip {ns : List Int} {t j : Nat} (h : lane (tbl ns t) j = 0) : ksU ns t (j + 1) = ksU ns t j ∧ kvU ns t (j + 1) = kvU ns t j ∧ rowU ns t (j + 1) = rowU ns t j := by
  unfold ksU kvU rowU
  rw [filt_succ, flat_succ, h]
  refine ⟨by simp, by simp, ?_⟩
  unfold blk
  rw [h]; simp
theorem ksU_take {ns : List Int} {t j : Nat} (h : lane (tbl ns t) j ≠ 0) : ksU ns t (j + 1) = ksU ns t j ++ [(num ns t j, meas ns t * (lane (tbl ns t) j : Int))] ∧ kvU ns t (j + 1) = kvU ns t j ++ [(num ns t j, .int j)] := by
  unfold ksU kvU
  rw [filt_succ, if_pos (by simpa using h)]
  exact ⟨by simp, by simp⟩
theorem ksU_new {ns : List Int} {t j : Nat} (hj : j < 4) : ∀ k ∈ ksU ns t j, k.1 ≠ num ns t j := by
  intro k hk e
  obtain ⟨r, hr, rfl⟩ := List.mem_map.1 hk
  rw [List.mem_filter, List.mem_range] at hr
  have := num_inj ns t r j (by omega) hj e
  omega
theorem kvU_keys (ns : List Int) (t j : Nat) : (kvU ns t j).map (·.1) = (ksU ns t j).map (·.1) := by
  unfold kvU ksU
  rw [List.map_map, List.map_map]; rfl
theorem ksU_len (ns : List Int) (t : Nat) {j : Nat} (hj : j ≤ 4) : (ksU ns t j).length ≤ 4 := by
  unfold ksU
  rw [List.length_map]
  have := List.length_filter_le (fun r => lane (tbl ns t) r != 0) (List.range j)
  rw [List.length_range] at this
  omega
theorem row_len8 (ns : List Int) (t : Nat) : ∀ j, j ≤ 4 → (rowU ns t j).length ≤ 2 * j
  | 0, _ => by simp [rowU]
  | j + 1, h => by
    have ih := row_len8 ns t j (by omega)
    unfold rowU at ih ⊢
    rw [flat_succ, List.length_append, blk_len]
    have := lane_le _ (tbl_lt ns t) j (by omega)
    omega
theorem cel9 {σ' : St} {t : Nat} {lo : List (Option V)} (e : σ'[9]? = some (.cell (some (.int t)))) : celE 9 ⟨lo, CL⟩ σ' = some (.ok (.int t) σ') := by
  simp only [celE, CL, List.getElem?_cons_succ, List.getElem?_cons_zero, Option.bind_some, e]
abbrev Sin (B : Nat) : Nat → Prop := fun i => i = 4 ∨ i = 5 ∨ B ≤ i
theorem road_step {ns : List Int} {t B nu la : Nat} {σB σ : St} {ta : TA} {s w j : Nat} {its : List Item} {x0 x1 x2 x3 y9 : Option V} {L : List (Option V)} (bc : BC ns t σB nu la) (hB : σB.length = B) (h12 : 12 ≤ B) (ht : t < 3) (hj : j < 4) (h : BI ns t B σB σ ta s w j its) :
    WS (roadB (callN 30) ⟨x0 :: x1 :: x2 :: x3 :: some (.ref ta.a) :: some (.ref s) :: some (.ref w) :: some (.int (meas ns t)) :: some (.int j) :: y9 :: L, CL⟩ σ) fun fl lo' σ' => fl = .next ∧ ∃ its' y, lo' = x0 :: x1 :: x2 :: x3 :: some (.ref ta.a) :: some (.ref s) :: some (.ref w) :: some (.int (meas ns t)) :: some (.int j) :: y :: L ∧ BI ns t B σB σ' ta s w (j + 1) its' ∧ Keep (Sin B) σ σ' := by
  obtain ⟨K, ce, ⟨kvs, fl, kf, kk⟩, srt, perm, zero, ⟨e, sg⟩, ⟨vs, hw, hp⟩, ⟨low1, low2, low3⟩, off1, off2⟩ := h
  have b1 := bc.keep K (Nat.le_of_eq hB) ce
  have hti := tbl_lt ns t
  by_cases hl : lane (tbl ns t) j = 0
  · -- no lanes
    refine WS.ifF (WR.truE (WR.lanes rfl b1.c8 b1.hla ht hj ?_ rfl ?_))
    · simp only [celE, CL, List.getElem?_cons_succ, List.getElem?_cons_zero, Option.bind_some, b1.c9]
    rw [hl]
    refine WR.ok.2 ⟨rfl, WS.nilCons.2 (WS.nil.2 ⟨rfl, its, _, rfl, ?_, Keep.refl _ _⟩)⟩
    obtain ⟨q1, q2, q3⟩ := ksU_skip hl
    exact ⟨K, ce, ⟨kvs, fl, kf, by rw [q1]; exact kk⟩, srt, by rw [q1]; exact perm, zero, ⟨e, by rw [q2]; exact sg⟩, ⟨vs, hw, by rw [q3]; exact hp⟩, ⟨low1, low2, low3⟩, off1, off2⟩
  obtain ⟨q1, q2⟩ := ksU_take hl
  have hc9 := @cel9
  refine WS.ifT (WR.truE (WR.lanes rfl b1.c8 b1.hla ht hj (hc9 b1.c9) rfl ?_))
  refine WR.ok.2 ⟨by simp only [bne_iff_ne, ne_eq]; omega, ?_⟩
  refine WS.consAssoc.2 (WS.asgL ?_)
  have hsm : small (j : Int) = true := small_of (by omega) (by omega)
  refine WR.binE (WR.binE (WR.binE (WR.locE rfl (WR.binE (WR.intE (WR.binE (WR.binE (WR.nums (j := 3) rfl b1.c11 b1.hnu (by omega) (WR.of_eq (hc9 b1.c9) (WR.add (WR.intE (WR.mod (by decide) (WR.add ?_)))))))))))))
  refine WR.mul (by rw [hsm]; rfl) (WR.nums (j := 4) rfl b1.c11 b1.hnu (by omega) (WR.add (WR.intE (WR.mod (by decide) ?_))))
  have em : ((j : Int) * (1 + (nq ns 3 + (t : Int)).fmod 4) + nq ns 4).fmod 5 = mark ns t j := by
    rw [Int.fmod_eq_emod_of_nonneg _ (by decide), Int.fmod_eq_emod_of_nonneg _ (by decide)]; rfl
  rw [em]
  simp only [setLo, List.set_cons_succ, List.set_cons_zero]
  refine WS.consAssoc.2 (WS.setC ?_)
  have en : WR (iteE (truE (cmpE T (callN 30) .lt (locE 9) (intE 2))) (binE .sub (locE 9) (intE 2)) (binE .sub (locE 9) (intE 1)) ⟨x0 :: x1 :: x2 :: x3 :: some (.ref ta.a) :: some (.ref s) :: some (.ref w) :: some (.int (meas ns t)) :: some (.int j) :: some (.int (mark ns t j)) :: L, CL⟩ σ) fun v σ1 => v = .int (num ns t j) ∧ σ = σ1 := by
    by_cases h2 : mark ns t j < 2
    · refine WR.iteT (WR.truE (WR.cmpE (WR.locE rfl (WR.intE ?_))))
      simp only [cmpV, WR.ok, truV, decide_eq_true h2, true_and]
      refine WR.binE (WR.locE rfl (WR.intE (WR.sub ⟨?_, rfl⟩)))
      unfold num; rw [if_pos h2]
    · refine WR.iteF (WR.truE (WR.cmpE (WR.locE rfl (WR.intE ?_))))
      simp only [cmpV, WR.ok, truV, decide_eq_false h2, true_and]
      refine WR.binE (WR.locE rfl (WR.intE (WR.sub ⟨?_, rfl⟩)))
      unfold num; rw [if_neg h2]
  refine en.mono ?_
  rintro _ _ ⟨rfl, rfl⟩
  refine ⟨ce, ?_⟩
  obtain ⟨o5, h5⟩ := ce 5 (by omega)
  have K1 : Keep (Sin B) σ (σ.set 5 (.cell (some (.int (num ns t j))))) := Keep.set h5 rfl (.inr (.inl rfl))
  have K1' : Keep (· = 5) σ (σ.set 5 (.cell (some (.int (num ns t j))))) := Keep.set (S := (· = 5)) h5 rfl rfl
  have ce1 := ce.set (j := 5) (by omega) (some (.int (num ns t j)))
  have c5 := get_set (o' := .cell (some (.int (num ns t j)))) h5
  generalize σ.set 5 (.cell (some (.int (num ns t j)))) = σ1 at *
  have b2 := bc.keep (K.then K1) (Nat.le_of_eq hB) ce1
  -- the weight
  refine WS.consAssoc.2 (WS.setC ?_)
  have hwm := meas_rng ns t
  refine WR.binE (WR.locE rfl (WR.lanes rfl b2.c8 b2.hla ht hj (hc9 b2.c9) rfl (WR.mul (by rw [small_of (by omega) (by omega)]; rfl) ⟨ce1, ?_⟩)))
  obtain ⟨o4, h4⟩ := ce1 4 (by omega)
  have K2 : Keep (Sin B) σ1 (σ1.set 4 (.cell (some (.int (meas ns t * (lane (tbl ns t) j : Int)))))) := Keep.set h4 rfl (.inl rfl)
  have K2' : Keep (· = 4) σ1 (σ1.set 4 (.cell (some (.int (meas ns t * (lane (tbl ns t) j : Int)))))) := Keep.set (S := (· = 4)) h4 rfl rfl
  have ce2 := ce1.set (j := 4) (by omega) (some (.int (meas ns t * (lane (tbl ns t) j : Int))))
  have d4 := get_set (o' := .cell (some (.int (meas ns t * (lane (tbl ns t) j : Int))))) h4
  have d5 := get_set_ne (o' := .cell (some (.int (meas ns t * (lane (tbl ns t) j : Int))))) (by omega : 4 ≠ 5) c5
  generalize σ1.set 4 (.cell (some (.int (meas ns t * (lane (tbl ns t) j : Int))))) = σ2 at *
  have wp := wgt_pos ns t hl
  have wr := wgt_rng ns t hti hj
  -- the insert
  have fl2 := (fl.keep K1' fun i hi e => by have := low1 i hi; omega).keep K2' fun i hi e => by have := low1 i hi; omega
  refine WS.consAssoc.2 (WS.exprS (WR.methE (WR.locE rfl ⟨_, _, meth_at fl2.hT fl2.hB T_cls2 T_m14, ?_⟩)))
  refine WR.consS (WR.celE (k := 5) rfl d5 (WR.consS (WR.noneE (WR.consS (WR.celE (k := 4) rfl d4 (WR.nilS ?_))))))
  have hany : (kvs.any fun p => p.1 == num ns t j) = false := by
    rw [List.any_eq_false]
    intro p hp'
    have : p.1 ∈ kvs.map (·.1) := List.mem_map.2 ⟨p, hp', rfl⟩
    rw [kk] at this
    simp only [beq_iff_eq]
    intro e'
    rcases List.mem_cons.1 this with h0 | h0
    · exact num_ne ns t j (by rw [← e', h0])
    · obtain ⟨k, hk, h0⟩ := List.mem_map.1 h0
      exact ksU_new hj k hk (by rw [h0, e'])
  have klen := ksU_len ns t (j := j) (by omega)
  have ilen : its.length ≤ 4 := by have := perm.length_eq; rw [List.length_map] at this; omega
  have vlen : kvs.length ≤ 5 := by have := congrArg List.length kk; simp only [List.length_map, List.length_cons] at this; omega
  refine (insert30 fl2 kf hany ⟨wp, wr⟩ (by omega) (by omega)).mono ?_
  rintro v σ3 ⟨rfl, x, xi, xw, xd, xl, fl3, K3⟩
  have K3' : Keep (Sin B) σ2 σ3 := K3.weak fun i hi => .inr (.inr (low1 i hi))
  have ce3 : Cells σ3 := ce2.keep K3 fun i hi hf => by have := low1 i hf; omega
  have e4 := K3.get d4 (fun hf => by have := low1 4 hf; omega)
  have e5 := K3.get d5 (fun hf => by have := low1 5 hf; omega)
  have s3 := K3.get (K2'.get (K1'.get sg (by omega)) (by omega)) off1
  have w3 := K3.get (K2'.get (K1'.get hw (by omega)) (by omega)) off2
  have p3 := hp.imp fun a b (r : PairAt σ a b) => ((r.keep K1').keep K2').keep K3
  have fpm : ∀ i, i ∈ fp ta (ins (0, x) its) → i = x.d ∨ i ∈ fp ta its := by
    intro i hi
    have := (fp_perm (t := ta) (its' := (0, x) :: its) ((ins_perm (0, x) its).map fun p : Item => p.2.d) i).1 hi
    simp only [fp, List.map_cons, List.mem_cons] at this ⊢
    rcases this with h | h | h | h | h | h | h
    · exact .inr (.inl h)
    · exact .inr (.inr (.inl h))
    · exact .inr (.inr (.inr (.inl h)))
    · exact .inr (.inr (.inr (.inr (.inl h))))
    · exact .inr (.inr (.inr (.inr (.inr (.inl h)))))
    · exact .inl h
    · exact .inr (.inr (.inr (.inr (.inr (.inr h)))))
  have lens : σB.length ≤ σ2.length := Nat.le_trans K.len (Nat.le_trans K1.len K2.len)
  have xB : B ≤ x.d := by omega
  have sw : s ≠ w := ne_of_get sg hw (by simp)
  have offx : s ≠ x.d ∧ w ≠ x.d := by
    have l1 := lt_of_get (K2'.get (K1'.get sg (by omega)) (by omega))
    have l2 := lt_of_get (K2'.get (K1'.get hw (by omega)) (by omega))
    omega
  -- the sign
  have hnew : (kvU ns t j).any (fun p => decide (p.1 = num ns t j)) = false := by
    rw [List.any_eq_false]
    intro p hp' h0
    simp only [decide_eq_true_eq] at h0
    have : p.1 ∈ (kvU ns t j).map (·.1) := List.mem_map.2 ⟨p, hp', rfl⟩
    rw [kvU_keys] at this
    obtain ⟨k, hk, h1⟩ := List.mem_map.1 this
    exact ksU_new hj k hk (by rw [h1, h0])
  have sv : storedV (kvU ns t j) (num ns t j) (.int j) = kvU ns t (j + 1) := by
    unfold storedV
    rw [hnew, q2]; rfl
  have se : storedEp (kvU ns t j) (num ns t j) (some e) = some (e + 1) := by
    unfold storedEp
    rw [hnew]; rfl
  have kvl : (kvU ns t j).length < 16777216 := by
    have := congrArg List.length (kvU_keys ns t j)
    simp only [List.length_map] at this
    omega
  refine WS.consAssoc.2 (WS.cons (R := fun lo' σ' => lo' = x0 :: x1 :: x2 :: x3 :: some (.ref ta.a) :: some (.ref s) :: some (.ref w) :: some (.int (meas ns t)) :: some (.int j) :: some (.int (mark ns t j)) :: L ∧ σ3.set s (.dict (kvU ns t (j + 1)) (some (e + 1))) = σ') ?_ ?_)
  · have c5e : celE 5 ⟨x0 :: x1 :: x2 :: x3 :: some (.ref ta.a) :: some (.ref s) :: some (.ref w) :: some (.int (meas ns t)) :: some (.int j) :: some (.int (mark ns t j)) :: L, CL⟩ σ3 = some (.ok (.int (num ns t j)) σ3) := by
      simp only [celE, CL, List.getElem?_cons_succ, List.getElem?_cons_zero, Option.bind_some, e5]
    simp only [asgI, c5e, locE, List.getElem?_cons_succ, List.getElem?_cons_zero, Option.join_some, Option.map_some, bindE, setV, s3, kvl, if_true, sv, se]
    exact ⟨_, _, _, rfl, rfl, rfl, rfl⟩
  rintro lo' σ4 ⟨rfl, hσ4⟩
  have K4 : Keep (· = s) σ3 σ4 := hσ4 ▸ Keep.set (S := (· = s)) s3 rfl rfl
  have s4 : σ4[s]? = some (.dict (kvU ns t (j + 1)) (some (e + 1))) := hσ4 ▸ get_set s3
  have ce4 : Cells σ4 := ce3.keep K4 fun i hi hf => by have : i = s := hf; omega
  have w4 := K4.get w3 (Ne.symm sw)
  have f4 := K4.get e4 (by show ¬ 4 = s; omega)
  have f5 := K4.get e5 (by show ¬ 5 = s; omega)
  have p4 := p3.imp fun a b r => r.keep K4
  have K4' : Keep (Sin B) σ3 σ4 := K4.weak fun i hi => by have : i = s := hi; exact .inr (.inr (by omega))
  have fl4 := fl3.keep K4 (fun i hi hf => by
    have hf : i = s := hf
    rcases fpm i hi with h | h
    · omega
    · exact off1 (hf ▸ h))
  clear hσ4
  have KB4 := ((((K.then K1).then K2).then K3').then K4')
  have b4 := bc.keep KB4 (Nat.le_of_eq hB) ce4
  -- the places
  refine WS.consAssoc.2 (WS.augL (a := .ref w) rfl ?_)
  have g5 := getElem?_len σ4 (.rng 0 (lane (tbl ns t) j : Nat))
  have K5 := Keep.app (fun _ => False) σ4 [.rng 0 (lane (tbl ns t) j : Nat)]
  have ll := lane_le _ hti j hj
  have ei : biE rangeV (consS (subE T (subE T (celE 8) (celE 9)) (locE 8)) nilS) ⟨x0 :: x1 :: x2 :: x3 :: some (.ref ta.a) :: some (.ref s) :: some (.ref w) :: some (.int (meas ns t)) :: some (.int j) :: some (.int (mark ns t j)) :: L, CL⟩ σ4 = some (.ok (.ref σ4.length) (σ4 ++ [.rng 0 (lane (tbl ns t) j : Nat)])) := by
    have : WR (subE T (subE T (celE 8) (celE 9)) (locE 8) ⟨x0 :: x1 :: x2 :: x3 :: some (.ref ta.a) :: some (.ref s) :: some (.ref w) :: some (.int (meas ns t)) :: some (.int j) :: some (.int (mark ns t j)) :: L, CL⟩ σ4) fun v σ' => v = .int (lane (tbl ns t) j) ∧ σ' = σ4 := WR.lanes rfl b4.c8 b4.hla ht hj (hc9 b4.c9) rfl ⟨rfl, rfl⟩
    obtain ⟨v, σ', e1, rfl, rfl⟩ := this
    simp only [biE, consS, nilS, e1, bindR, rangeV]
  refine WR.compE (kd := .rng 0) (len := lane (tbl ns t) j) ei (kd_rng g5 rfl (small_of (by omega) (by omega)) (by omega)) (.inl rfl)
    (fun k lo2 σ' ys => Keep (fun _ => False) (σ4 ++ [.rng 0 (lane (tbl ns t) j : Nat)]) σ' ∧ lo2.length = 1 ∧ All2 (PairAt σ') ys ((List.range k).map fun k : Nat => (256 * (k : Int) / (meas ns t * (lane (tbl ns t) j : Int)), num ns t j))) ?_ ?_ ?_ ?_
  · exact ⟨by simpa using Keep.refl _ _, rfl, trivial⟩
  · rintro k lo2 σ' ys ⟨Kc, -, -⟩
    exact kd_rng (Kc.getF g5) rfl (small_of (by omega) (by omega)) (by omega)
  · rintro k lo2 σ' ys hk ⟨Kc, hlo2, hys⟩
    obtain ⟨z0, rfl⟩ : ∃ z0, lo2 = [z0] := List.length_eq_one_iff.1 hlo2
    refine ⟨by rw [hys.length, List.length_map, List.length_range]; omega, .int k, [some (.int k)], σ', ?_, rfl, ?_⟩
    · rw [it_rng (Kc.getF g5), Int.zero_add]
    refine WR.ok.2 ?_
    rw [if_pos rfl]
    refine WR.tupE (WR.consS (WR.binE (WR.binE (WR.intE (WR.locE rfl (WR.mul rfl (WR.celE (k := 4) rfl (Kc.getF (K5.getF f4)) (WR.fdiv (by omega) (small_of (by omega) (by omega)) (WR.consS (WR.celE (k := 5) rfl (Kc.getF (K5.getF f5)) (WR.nilS ⟨by simp, ?_⟩)))))))))))
    rw [Int.fdiv_eq_ediv_of_nonneg _ (by omega)]
    refine ⟨Kc.addF (Keep.app _ _ _), rfl, ?_⟩
    rw [List.range_succ, List.map_append]
    exact All2.append (hys.imp fun a b r => r.keep (Keep.app (fun _ => False) _ _)) (show All2 _ [_] [_] from ⟨⟨_, rfl, getElem?_len _ _⟩, trivial⟩)
  rintro lo2 σ5 ys ⟨Kc, -, hys⟩
  have K6 := (K5.addF Kc).addF (Keep.app (fun _ => False) σ5 [.list ys])
  have w6 := K6.getF w4
  have y6 := getElem?_len σ5 (.list ys)
  have hy6 := hys.imp fun a b r => r.keep (Keep.app (fun _ => False) σ5 [.list ys])
  generalize σ5.length = yl at *
  generalize σ5 ++ [.list ys] = σ6 at *
  have vl : vs.length ≤ 8 := by rw [hp.length]; have := row_len8 ns t j (by omega); omega
  have yl2 : ys.length ≤ 2 := by rw [hys.length, List.length_map, List.length_range]; omega
  have hz : vs.length + ys.length ≤ 16777216 := by omega
  simp only [inpV, w6, y6, hz, if_true, WR.ok, setLo, List.set_cons_succ, List.set_cons_zero]
  refine WS.nilCons.2 (WS.nil.2 ⟨rfl, ins (0, x) its, _, rfl, ?_, ?_⟩)
  · have K7 : Keep (· = w) σ6 (σ6.set w (.list (vs ++ ys))) := Keep.set (S := (· = w)) w6 rfl rfl
    have K7' : Keep (Sin B) σ6 (σ6.set w (.list (vs ++ ys))) := K7.weak fun i hi => by have : i = w := hi; exact .inr (.inr (by omega))
    refine ⟨(KB4.addF K6).then K7', ((ce4.keep K6 fun _ _ h => h).keep K7 (fun i hi hf => by have : i = w := hf; omega)), ⟨_, (fl4.keep K6 fun _ _ h => h).keep K7 (fun i hi hf => ?_), ?_, ?_⟩, ?_, ?_, ?_, ⟨_, K7.get (K6.getF s4) sw⟩, ⟨vs ++ ys, get_set w6, ?_⟩, ⟨?_, low2, low3⟩, ?_, ?_⟩
    · have hf : i = w := hf
      rcases fpm i hi with h | h
      · omega
      · exact off2 (hf ▸ h)
    · rw [List.find?_append, kf]; rfl
    · rw [List.map_append, kk, q1, List.map_append]; rfl
    · refine ins_sorted srt fun p hp' e' => ?_
      have : (p.2.id, p.2.w) ∈ ksU ns t j := perm.subset (List.mem_map.2 ⟨p, hp', rfl⟩)
      exact ksU_new hj _ this (by rw [← xi]; exact e')
    · rw [q1]
      have p1 := (ins_perm (0, x) its).map fun p : Item => (p.2.id, p.2.w)
      refine p1.trans ?_
      rw [List.map_cons, xi, xw]
      exact ((perm.cons _).trans (List.perm_append_singleton _ _).symm)
    · intro p hp'
      rcases (ins_mem p).1 hp' with rfl | hp'
      · exact ⟨rfl, xd⟩
      · exact zero p hp'
    · have : rowU ns t (j + 1) = rowU ns t j ++ blk (num ns t) (meas ns t) (tbl ns t) j := flat_succ _ _
      rw [this]
      exact All2.append (p4.imp fun a b r => (r.keep K6).keep K7) (hy6.imp fun a b r => r.keep K7)
    · intro i hi
      rcases fpm i hi with h | h
      · omega
      · exact low1 i h
    · intro hi
      rcases fpm s hi with h | h
      · exact offx.1 h
      · exact off1 h
    · intro hi
      rcases fpm w hi with h | h
      · exact offx.2 h
      · exact off2 h
  · have K7' : Keep (Sin B) σ6 (σ6.set w (.list (vs ++ ys))) := Keep.set w6 rfl (.inr (.inr (by omega)))
    exact (((((K1.then K2).then K3').then K4').addF K6).then K7')
end L3
end Mine

end
noncomputable section
open PySem PySem.W PyProof.Rows
set_option linter.unusedVariables false
set_option linter.unusedSimpArgs false
set_option autoImplicit false
set_option Elab.async false
set_option maxRecDepth 100000
set_option maxHeartbeats 1000000
namespace Mine
namespace L3
open R3 (lane outl)
structure DT (ns : List Int) (t : Nat) (D : TD) : Prop where
  ok : TDok D
  R : D.R = sorted (rowOf (num ns t) (meas ns t) (tbl ns t))
  kv : D.kv = kvU ns t 4
  ep : ∃ e, D.ep = some e
  road : D.road = roadOf (num ns t)
structure BO (ns : List Int) (σ : St) (nu la ro to tr si : Nat) (D : Nat → TD) (rw b : Nat → Nat) (j : Nat) : Prop where
  pa : PA ns σ nu la ro to tr si
  htr : σ[tr]? = some (.list ((List.range j).map fun t => .ref (D t).ta.a))
  hsi : σ[si]? = some (.list ((List.range j).map fun t => .ref (D t).s))
  hro : σ[ro]? = some (.list ((List.range j).map fun t => .ref (rw t)))
  hto : σ[to]? = some (.list ((List.range j).map fun t => .ref (D t).m))
  town : ∀ t, t < j → TownAt σ (D t) 0 ∧ DT ns t (D t) ∧ σ[rw t]? = some (.list ((D t).R.map fun p => .int p.2))
  rng : ∀ t, t < j → (∀ i ∈ (D t).s :: (D t).m :: (D t).f, b t ≤ i ∧ i < b (t + 1)) ∧ b t ≤ rw t ∧ rw t < b (t + 1) ∧ rw t ∉ (D t).m :: (D t).f
  mono : ∀ t, t < j → b t ≤ b (t + 1)
  low : 12 ≤ b 0 ∧ nu < b 0 ∧ la < b 0 ∧ ro < b 0 ∧ to < b 0 ∧ tr < b 0 ∧ si < b 0
  top : b j ≤ σ.length
abbrev townB (call : CallF) : SF := (consL (asgSw [4, 5, 6] (tupE (consS (newE call 347 11 nilS) (consS dict0 (consS (listE nilS) nilS)))))
 (consL (asgL 7 (subE T (locE 1) (binE .mod (binE .add (subE T (celE 11) (intE 5)) (binE .mul (celE 9) (subE T (celE 11) (intE 6)))) (intE 8))))
 (consL (forS T false (biE rangeV (consS (intE 4) nilS)) (tgL 8) (roadB call))
 (consL (exprS (lmE appV (locE 2) (consS (locE 4) nilS)))
 (consL (exprS (lmE appV (locE 3) (consS (locE 5) nilS)))
 (consL (exprS (lmE appV (celE 7) (consS (compE T true (biE sortV2 (consS (locE 6) nilS)) 2 0 [] (tgT [tgL 0, tgL 1]) none (locE 1)) nilS)))
 (consL (exprS (lmE appV (celE 6) (consS (listE nilS) nilS)))
 nilL)))))))
theorem tree30 (σ : St) : WR (newV (callN 30) 347 11 [] σ) fun v σ' => ∃ t, v = .ref t.a ∧ Flat σ' t 0 [] [(0, .ref t.r)] ∧ Keep (fun _ => False) σ σ' ∧ ∀ i ∈ fp t [], σ.length ≤ i := tree_ok 22 σ
theorem me_get (ns : List Int) (t : Nat) : ((List.range 8).map fun k => V.int ((2 ^ k : Nat) : Int))[me ns t]? = some (.int (meas ns t)) := by
  rw [List.getElem?_map, List.getElem?_range (me_lt ns t)]; rfl
/-- a town's tree, sign and row, whole -/
theorem town_in {ns : List Int} {t nu la : Nat} {σ : St} {x0 x2 x3 y4 y5 y6 y7 y8 y9 : Option V} {L : List (Option V)} (bc : BC ns t σ nu la) (h12 : 12 ≤ σ.length) (ht : t < 3) {P : Fl → List (Option V) → St → Prop} {b : SF}
    (hb : ∀ (σ' : St) (ta : TA) (s w : Nat) (its : List Item) (y8 y9 : Option V), BI ns t σ.length σ σ' ta s w 4 its → WS (b ⟨x0 :: some (.glob 362) :: x2 :: x3 :: some (.ref ta.a) :: some (.ref s) :: some (.ref w) :: some (.int (meas ns t)) :: y8 :: y9 :: L, CL⟩ σ') P) :
    WS (consL (asgSw [4, 5, 6] (tupE (consS (newE (callN 30) 347 11 nilS) (consS dict0 (consS (listE nilS) nilS)))))
 (consL (asgL 7 (subE T (locE 1) (binE .mod (binE .add (subE T (celE 11) (intE 5)) (binE .mul (celE 9) (subE T (celE 11) (intE 6)))) (intE 8))))
 (consL (forS T false (biE rangeV (consS (intE 4) nilS)) (tgL 8) (roadB (callN 30))) b)) ⟨x0 :: some (.glob 362) :: x2 :: x3 :: y4 :: y5 :: y6 :: y7 :: y8 :: y9 :: L, CL⟩ σ) P := by
  obtain ⟨v, σ1, e1, ta, rfl, fl1, K1, low1⟩ := tree30 σ
  have et : tupE (consS (newE (callN 30) 347 11 nilS) (consS dict0 (consS (listE nilS) nilS))) ⟨x0 :: some (.glob 362) :: x2 :: x3 :: y4 :: y5 :: y6 :: y7 :: y8 :: y9 :: L, CL⟩ σ = some (.ok (.ref (σ1.length + 2)) (σ1 ++ [.dict [] (some 0), .list [], .tup [.ref ta.a, .ref σ1.length, .ref (σ1.length + 1)]])) := by
    simp [tupE, consS, nilS, newE, dict0, listE, bindR, e1]
  have g1 : (σ1 ++ [O.dict [] (some 0), .list [], .tup [.ref ta.a, .ref σ1.length, .ref (σ1.length + 1)]])[σ1.length]? = some (.dict [] (some 0)) := by simp
  have g2 : (σ1 ++ [O.dict [] (some 0), .list [], .tup [.ref ta.a, .ref σ1.length, .ref (σ1.length + 1)]])[σ1.length + 1]? = some (.list []) := by simp
  have g3 : (σ1 ++ [O.dict [] (some 0), .list [], .tup [.ref ta.a, .ref σ1.length, .ref (σ1.length + 1)]])[σ1.length + 2]? = some (.tup [.ref ta.a, .ref σ1.length, .ref (σ1.length + 1)]) := by simp
  have K2 := K1.addF (Keep.app (fun _ => False) σ1 [.dict [] (some 0), .list [], .tup [.ref ta.a, .ref σ1.length, .ref (σ1.length + 1)]])
  have fl2 := fl1.keep (Keep.app (fun _ => False) σ1 [.dict [] (some 0), .list [], .tup [.ref ta.a, .ref σ1.length, .ref (σ1.length + 1)]]) (fun _ _ h => h)
  have fpl := fl1.lt
  have hs1 : σ.length ≤ σ1.length := K1.len
  generalize σ1.length = n at *
  generalize (σ1 ++ [O.dict [] (some 0), .list [], .tup [.ref ta.a, .ref n, .ref (n + 1)]]) = σ2 at *
  refine WS.cons (R := fun lo σ' => lo = x0 :: some (.glob 362) :: x2 :: x3 :: some (.ref ta.a) :: some (.ref n) :: some (.ref (n + 1)) :: y7 :: y8 :: y9 :: L ∧ σ2 = σ') ?_ ?_
  · unfold asgSw
    rw [et]
    simp only [bindE, g3]
    exact ⟨_, _, _, rfl, rfl, rfl, rfl⟩
  rintro lo _ ⟨rfl, rfl⟩
  have ce2 : Cells σ2 := bc.ce.keep K2 fun _ _ h => h
  have KB : Keep (Sin σ.length) σ σ2 := K2.weak fun _ h => h.elim
  have b2 := bc.keep KB (Nat.le_refl _) ce2
  -- the measure
  refine WS.asgL ?_
  refine WR.subE (WR.locE rfl (WR.binE (WR.binE (WR.nums (j := 5) rfl b2.c11 b2.hnu (by omega) (WR.binE (WR.of_eq (cel9 b2.c9) (WR.nums (j := 6) rfl b2.c11 b2.hnu (by omega) (WR.mul (by rw [small_of (by omega) (by omega)]; rfl) (WR.add (WR.intE (WR.mod (by decide) ?_)))))))))))
  refine WR.getG T_362 (me ns t) ?_ (me_get ns t) ?_
  · rw [Int.fmod_eq_emod_of_nonneg _ (by decide)]; unfold me; omega
  simp only [setLo, List.set_cons_succ, List.set_cons_zero]
  -- the roads
  have g4 := getElem?_len σ2 (.rng 0 4)
  have K4 := Keep.app (fun _ => False) σ2 [.rng 0 4]
  refine WS.consB ?_
  refine WS.forS (a := .ref σ2.length) (σ1 := σ2 ++ [.rng 0 4]) (kd := .rng 0) (len := 4) rfl (kd_rng g4 rfl rfl rfl) (.inl rfl)
    (fun j lo σ' => σ'[σ2.length]? = some (.rng 0 4) ∧ ∃ its y8 y9, lo = x0 :: some (.glob 362) :: x2 :: x3 :: some (.ref ta.a) :: some (.ref n) :: some (.ref (n + 1)) :: some (.int (meas ns t)) :: y8 :: y9 :: L ∧ BI ns t σ.length σ σ' ta n (n + 1) j its) ?_ ?_ ?_ ?_
  · refine ⟨g4, [], _, _, rfl, ?_⟩
    refine ⟨KB.addF K4, ce2.keep K4 fun _ _ h => h, ⟨_, fl2.keep K4 fun _ _ h => h, rfl, rfl⟩, List.Pairwise.nil, .refl _, (fun p hp => absurd hp (List.not_mem_nil)), ⟨0, K4.getF g1⟩, ⟨[], K4.getF g2, trivial⟩, ⟨low1, hs1, by omega⟩, ?_, ?_⟩
    · intro h; have := fpl n h; omega
    · intro h; have := fpl (n + 1) h; omega
  · rintro j lo σ' ⟨g, -⟩
    exact kd_rng g rfl rfl rfl
  · rintro j lo σ' hj ⟨g, its, z8, z9, rfl, hBI⟩
    refine ⟨.int j, x0 :: some (.glob 362) :: x2 :: x3 :: some (.ref ta.a) :: some (.ref n) :: some (.ref (n + 1)) :: some (.int (meas ns t)) :: some (.int j) :: z9 :: L, σ', ?_, rfl, ?_⟩
    · rw [it_rng g, Int.zero_add]
    refine (road_step bc rfl h12 ht hj hBI).mono ?_
    rintro fl lo' σ'' ⟨rfl, its', y, rfl, hBI', Kr⟩
    exact ⟨Kr.getX g rfl, its', _, _, rfl, hBI'⟩
  · rintro lo σ' ⟨-, its, z8, z9, rfl, hBI⟩
    exact hb σ' ta n (n + 1) its z8 z9 hBI
end L3
end Mine

end
noncomputable section
open PySem PySem.W PyProof.Rows
set_option linter.unusedVariables false
set_option linter.unusedSimpArgs false
set_option autoImplicit false
set_option Elab.async false
set_option maxRecDepth 100000
set_option maxHeartbeats 1000000
namespace Mine
namespace L3
open R3 (lane outl)
theorem rowU_row (ns : List Int) (t : Nat) : rowU ns t 4 = rowOf (num ns t) (meas ns t) (tbl ns t) := by
  unfold rowU rowOf
  simp [List.range_succ, List.flatMap_append]
theorem pairsV_ok {σ : St} : ∀ {vs : List V} {ps : List (Int × Int)}, All2 (PairAt σ) vs ps → pairsV σ vs = some ps
  | [], [], _ => rfl
  | v :: vs, p :: ps, ⟨⟨x, e, h⟩, r⟩ => by
    subst e
    unfold pairsV
    rw [h]
    dsimp only
    rw [pairsV_ok r]
    rfl
theorem sort_all2 {σ : St} {vs : List V} {ps : List (Int × Int)} (h : All2 (PairAt σ) vs ps) : ∀ {is : List Nat}, (∀ i ∈ is, i < ps.length) → All2 (PairAt σ) (is.map fun i => vs.getD i .none) (is.map fun i => ps.getD i (0, 0))
  | [], _ => trivial
  | i :: is, hi => by
    refine ⟨?_, sort_all2 h fun j hj => hi j (List.mem_cons_of_mem _ hj)⟩
    have h1 := hi i (List.mem_cons_self ..)
    have h2 : i < vs.length := by rw [h.length]; exact h1
    obtain ⟨p, hp, r⟩ := h.get (List.getElem?_eq_getElem h2)
    show PairAt σ (vs.getD i .none) (ps.getD i (0, 0))
    rw [List.getD_eq_getElem?_getD, List.getD_eq_getElem?_getD, List.getElem?_eq_getElem h2, hp]
    exact r
theorem pairs_none {σ : St} {vs : List V} {ps : List (Int × Int)} (h : All2 (PairAt σ) vs ps) (hn : ps.length ≠ 0) : intsV vs = none := by
  cases vs with
  | nil => exact (hn h.length.symm).elim
  | cons v vs =>
    cases ps with
    | nil => exact (hn rfl).elim
    | cons p ps =>
      obtain ⟨⟨x, rfl, -⟩, -⟩ := h
      rfl
theorem row_facts (ns : List Int) (t : Nat) : (rowU ns t 4).length = outl (tbl ns t) ∧ (rowU ns t 4).Nodup := by
  rw [rowU_row]
  have hm := meas_rng ns t
  exact ⟨row_len _ _ _, row_nodup (num_inj ns t) (by omega) fun r hr => wgt_rng ns t (tbl_lt ns t) hr⟩
abbrev Sout (ro to tr si n : Nat) : Nat → Prop := fun i => i = 9 ∨ i = 4 ∨ i = 5 ∨ i = tr ∨ i = si ∨ i = ro ∨ i = to ∨ n ≤ i
theorem map_upd {α : Type} (f g : Nat → α) (j : Nat) (h : ∀ t, t < j → g t = f t) : (List.range (j + 1)).map g = (List.range j).map f ++ [g j] := by
  rw [List.range_succ, List.map_append]
  congr 1
  exact List.map_congr_left fun t ht => h t (List.mem_range.1 ht)
theorem kv_find (ns : List Int) (t : Nat) : ∀ k ∈ ksU ns t 4, ((kvU ns t 4).find? fun p => p.1 == k.1) = some (k.1, .int (roadOf (num ns t) k.1)) := by
  intro k hk
  obtain ⟨r, hr, rfl⟩ := List.mem_map.1 hk
  rw [List.mem_filter, List.mem_range] at hr
  dsimp only
  rw [roadOf_nm (num_inj ns t) hr.1]
  unfold kvU
  have main : ∀ l : List Nat, (∀ s ∈ l, s < 4) → r ∈ l → (l.map fun r => ((num ns t r, V.int r) : Int × V)).find? (fun p => p.1 == num ns t r) = some (num ns t r, .int r) := by
    intro l
    induction l with
    | nil => intro _ h; cases h
    | cons s l ih =>
      intro hl hr'
      rw [List.map_cons, List.find?_cons]
      by_cases e : s = r
      · subst e; simp
      · have : (num ns t s == num ns t r) = false := by
          rw [beq_eq_false_iff_ne]
          exact fun x => e (num_inj ns t s r (hl s (List.mem_cons_self ..)) hr.1 x)
        rw [this]
        exact ih (fun s hs => hl s (List.mem_cons_of_mem _ hs)) ((List.mem_cons.1 hr').resolve_left (fun x => e x.symm))
  exact main _ (fun s hs => by rw [List.mem_filter, List.mem_range] at hs; exact hs.1) (by rw [List.mem_filter, List.mem_range]; exact hr)
theorem town_step {ns : List Int} {σ : St} {nu la ro to tr si j : Nat} {D : Nat → TD} {rw b : Nat → Nat} {x0 y4 y5 y6 y7 y8 y9 : Option V} {L : List (Option V)} (h : BO ns σ nu la ro to tr si D rw b j) (hj : j < 3) (nd : [nu, la, ro, to, tr, si].Nodup) :
    WS (townB (callN 30) ⟨x0 :: some (.glob 362) :: some (.ref tr) :: some (.ref si) :: y4 :: y5 :: y6 :: y7 :: y8 :: y9 :: L, CL⟩ (σ.set 9 (.cell (some (.int j))))) fun fl lo' σ' => fl = .next ∧ (∃ y4 y5 y6 y7 y8 y9, lo' = x0 :: some (.glob 362) :: some (.ref tr) :: some (.ref si) :: y4 :: y5 :: y6 :: y7 :: y8 :: y9 :: L) ∧
      (∃ D' rw' b', BO ns σ' nu la ro to tr si D' rw' b' (j + 1)) ∧ Keep (Sout ro to tr si σ.length) σ σ' := by
  obtain ⟨pa, htr, hsi, hro, hto, town, rng, mono, ⟨lw1, lw2, lw3, lw4, lw5, lw6, lw7⟩, top⟩ := h
  simp only [List.nodup_cons, List.mem_cons, List.not_mem_nil, or_false, not_or, not_false_eq_true, List.nodup_nil, and_true] at nd
  obtain ⟨⟨n1, n2, n3, n4, n5⟩, ⟨n6, n7, n8, n9⟩, ⟨n10, n11, n12⟩, ⟨n13, n14⟩, n15⟩ := nd
  obtain ⟨o9, h9⟩ := pa.ce 9 (by omega)
  obtain ⟨o4, h4⟩ := pa.ce 4 (by omega)
  obtain ⟨o5, h5⟩ := pa.ce 5 (by omega)
  have bj : b 0 ≤ b j := by
    have : ∀ k, k ≤ j → b 0 ≤ b k := by
      intro k
      induction k with
      | zero => intro _; exact Nat.le_refl _
      | succ k ih => intro hk; exact Nat.le_trans (ih (by omega)) (mono k (by omega))
    exact this j (Nat.le_refl _)
  -- the town's number
  have l9 : (σ.set 9 (O.cell (some (.int j)))).length = σ.length := by simp
  have K9 : Keep (Sout ro to tr si σ.length) σ (σ.set 9 (.cell (some (.int j)))) := Keep.set h9 rfl (.inl rfl)
  have K9' : Keep (· = 9) σ (σ.set 9 (.cell (some (.int j)))) := Keep.set (S := (· = 9)) h9 rfl rfl
  have ce9 := pa.ce.set (j := 9) (by omega) (some (.int j))
  have c9 := get_set (o' := .cell (some (.int j))) h9
  generalize σ.set 9 (.cell (some (.int j))) = σ0 at *
  have g9 : ∀ i o, σ[i]? = some o → i ≠ 9 → σ0[i]? = some o := fun i o e h => K9'.get e h
  have cellne : ∀ {i : Nat} {vs : List V}, σ[i]? = some (.list vs) → i ≠ 9 ∧ i ≠ 4 ∧ i ≠ 5 := fun e => ⟨ne_of_get e h9 (by simp), ne_of_get e h4 (by simp), ne_of_get e h5 (by simp)⟩
  have celln : ∀ {i : Nat} {vs : List V}, σ[i]? = some (.list vs) → ∀ k, k < 12 → k ≠ i := fun e k hk => by
    obtain ⟨o, ho⟩ := pa.ce k hk
    exact ne_of_get ho e (by simp)
  have bc : BC ns j σ0 nu la := ⟨ce9, g9 _ _ pa.c11 (by omega), g9 _ _ pa.hnu (cellne pa.hnu).1, g9 _ _ pa.c8 (by omega), g9 _ _ pa.hla (cellne pa.hla).1, c9⟩
  refine town_in bc (by omega) hj ?_
  intro σ1 ta s w its z8 z9 hBI
  obtain ⟨K, ce, ⟨kvs, fl, kf, kk⟩, srt, perm, zero, ⟨e, sg⟩, ⟨vs, hw, hp⟩, ⟨low1, low2, low3⟩, off1, off2⟩ := hBI
  rw [l9] at K low1 low2 low3
  have gB : ∀ i o, σ[i]? = some o → i ≠ 9 → i ≠ 4 → i ≠ 5 → σ1[i]? = some o := fun i o e h1 h2 h3 => K.get (g9 i o e h1) (by have := lt_of_get e; omega)
  have gL : ∀ i vs, σ[i]? = some (O.list vs) → σ1[i]? = some (O.list vs) := fun i vs e => gB i _ e (cellne e).1 (cellne e).2.1 (cellne e).2.2
  have K1 : Keep (Sout ro to tr si σ.length) σ σ1 := K9.trans K (fun i hi hs => by rcases hs with h | h | h <;> omega)
  -- trees
  have tr1 := gL _ _ htr
  refine WS.exprS (WR.lmE (WR.locE rfl ⟨by simp only [listAtV, tr1], WR.consS (WR.locE rfl (WR.nilS (WR.app tr1 (by simp; omega) ?_)))⟩))
  have K2 : Keep (· = tr) σ1 (σ1.set tr (.list ((List.range j).map (fun t => V.ref (D t).ta.a) ++ [.ref ta.a]))) := Keep.set (S := (· = tr)) tr1 rfl rfl
  have tr2 := get_set (o' := .list ((List.range j).map (fun t => V.ref (D t).ta.a) ++ [.ref ta.a])) tr1
  generalize (σ1.set tr (.list ((List.range j).map (fun t => V.ref (D t).ta.a) ++ [.ref ta.a]))) = σ2 at *
  -- signs
  have si2 := K2.get (gL _ _ hsi) (by show ¬ si = tr; omega)
  refine WS.exprS (WR.lmE (WR.locE rfl ⟨by simp only [listAtV, si2], WR.consS (WR.locE rfl (WR.nilS (WR.app si2 (by simp; omega) ?_)))⟩))
  have K3 : Keep (· = si) σ2 (σ2.set si (.list ((List.range j).map (fun t => V.ref (D t).s) ++ [.ref s]))) := Keep.set (S := (· = si)) si2 rfl rfl
  have si3 := get_set (o' := .list ((List.range j).map (fun t => V.ref (D t).s) ++ [.ref s])) si2
  generalize (σ2.set si (.list ((List.range j).map (fun t => V.ref (D t).s) ++ [.ref s]))) = σ3 at *
  have g3 : ∀ i o, σ1[i]? = some o → i ≠ tr → i ≠ si → σ3[i]? = some o := fun i o e h1 h2 => K3.get (K2.get e h1) h2
  -- the row
  have ltr : tr < σ.length := lt_of_get htr
  have lsi : si < σ.length := lt_of_get hsi
  have lro : ro < σ.length := lt_of_get hro
  have lto : to < σ.length := lt_of_get hto
  have c7 := g3 _ _ (gB _ _ pa.c7 (by omega) (by omega) (by omega)) (celln htr 7 (by omega)) (celln hsi 7 (by omega))
  have ro3 := g3 _ _ (gL _ _ hro) (by omega) (by omega)
  have w3 := g3 _ _ hw (by omega) (by omega)
  have p3 := hp.imp fun a b (r : PairAt σ1 a b) => (r.keep K2).keep K3
  obtain ⟨rl, rn⟩ := row_facts ns j
  have o23 := R3.out23 _ (tbl_lt ns j)
  obtain ⟨sk1, sk2, sk3, sk4, sk5⟩ := sort_row (ps := rowU ns j 4) (by omega) rn
  have hvs : intsV vs = none := pairs_none hp (by omega)
  have es : biE sortV2 (consS (locE 6) nilS) ⟨x0 :: some (.glob 362) :: some (.ref tr) :: some (.ref si) :: some (.ref ta.a) :: some (.ref s) :: some (.ref w) :: some (.int (meas ns j)) :: z8 :: z9 :: L, CL⟩ σ3 = some (.ok (.ref σ3.length) (σ3 ++ [.list ((sortOrd (rowU ns j 4)).map fun i => vs.getD i .none)])) := by
    have hz : 2 ≤ (rowU ns j 4).length ∧ (rowU ns j 4).length < 64 ∧ (sortOrd (rowU ns j 4)).length ≤ 64 ∧ evOk (rowU ns j 4).length (pairLt (rowU ns j 4)) (kas_sort (rowU ns j 4).length) = true := ⟨by omega, by omega, by omega, sk1⟩
    simp only [biE, consS, nilS, locE, List.getElem?_cons_succ, List.getElem?_cons_zero, Option.join_some, Option.map_some, bindR, sortV2, w3, hvs, pairsV_ok p3, Option.bind_some]
    rw [if_pos hz]
  have hq := sort_all2 p3 sk3
  generalize hsrt : (sortOrd (rowU ns j 4)).map (fun i => vs.getD i V.none) = sv at *
  have hq : All2 (PairAt σ3) sv (sorted (rowU ns j 4)) := hq
  have g4 := getElem?_len σ3 (.list sv)
  have K4 := Keep.app (fun _ => False) σ3 [.list sv]
  refine WS.exprS (WR.lmE (WR.celE (k := 7) rfl c7 ⟨by simp only [listAtV, ro3], WR.consS ?_⟩))
  refine WR.compE (kd := .list) (len := sv.length) es (kd_list g4) (.inr rfl)
    (fun k lo2 σ' ys => Keep (fun _ => False) (σ3 ++ [.list sv]) σ' ∧ lo2.length = 2 ∧ ys = ((sorted (rowU ns j 4)).take k).map fun p => .int p.2) ?_ ?_ ?_ ?_
  · exact ⟨by simpa using Keep.refl _ _, rfl, rfl⟩
  · rintro k lo2 σ' ys ⟨Kc, -, -⟩
    exact kd_list (Kc.getF g4)
  · rintro k lo2 σ' ys hk ⟨Kc, hlo2, rfl⟩
    obtain ⟨u0, u1, rfl⟩ : ∃ u0 u1, lo2 = [u0, u1] := by
      match lo2, hlo2 with
      | [u0, u1], _ => exact ⟨u0, u1, rfl⟩
    obtain ⟨p, hp1, x, hx, ht⟩ := hq.get (List.getElem?_eq_getElem hk)
    have ht' := Kc.getF (K4.getF ht)
    refine ⟨by rw [List.length_map, List.length_take]; have := sk4.length_eq; omega, .ref x, [some (.int p.1), some (.int p.2)], σ', ?_, ?_, ?_⟩
    · rw [it_list (Kc.getF g4), List.getElem?_eq_getElem hk, hx]
    · simp only [tgT, ht', stores, tgL, setLo, List.set_cons_succ, List.set_cons_zero, Option.bind_some]
    refine WR.ok.2 ?_
    rw [if_pos rfl]
    refine WR.locE rfl ⟨Kc, rfl, ?_⟩
    have hk' : k < (sorted (rowU ns j 4)).length := by rw [← hq.length]; exact hk
    rw [List.getElem?_eq_getElem hk'] at hp1
    cases hp1
    rw [List.take_succ_eq_append_getElem hk', List.map_append]
    rfl
  rintro lo2 σ5 ys ⟨Kc, -, rfl⟩
  rw [List.take_of_length_le (Nat.le_of_eq hq.length.symm)]
  have K6 := (K4.addF Kc).addF (Keep.app (fun _ => False) σ5 [.list ((sorted (rowU ns j 4)).map fun p => .int p.2)])
  have l6 := getElem?_len σ5 (.list ((sorted (rowU ns j 4)).map fun p => .int p.2))
  have le56 : σ3.length ≤ σ5.length := (K4.addF Kc).len
  generalize hrw : σ5.length = rwj at *
  generalize σ5 ++ [.list ((sorted (rowU ns j 4)).map fun p => .int p.2)] = σ6 at *
  have ro6 := K6.getF ro3
  refine WR.nilS (WR.app ro6 (by simp; omega) ?_)
  have K7 : Keep (· = ro) σ6 (σ6.set ro (.list ((List.range j).map (fun t => V.ref (rw t)) ++ [.ref rwj]))) := Keep.set (S := (· = ro)) ro6 rfl rfl
  have ro7 := get_set (o' := .list ((List.range j).map (fun t => V.ref (rw t)) ++ [.ref rwj])) ro6
  generalize (σ6.set ro (.list ((List.range j).map (fun t => V.ref (rw t)) ++ [.ref rwj]))) = σ7 at *
  -- told
  have lens : σ.length ≤ σ3.length := Nat.le_trans K1.len (Nat.le_trans K2.len K3.len)
  have g7 : ∀ i o, σ1[i]? = some o → i ≠ tr → i ≠ si → i ≠ ro → σ7[i]? = some o := fun i o e h1 h2 h3 => K7.get (K6.getF (g3 i o e h1 h2)) h3
  have c6 := g7 _ _ (gB _ _ pa.c6 (by omega) (by omega) (by omega)) (celln htr 6 (by omega)) (celln hsi 6 (by omega)) (celln hro 6 (by omega))
  have to7 := g7 _ _ (gL _ _ hto) (by omega) (by omega) (by omega)
  refine WS.exprS (WR.lmE (WR.celE (k := 6) rfl c6 ⟨by simp only [listAtV, to7], WR.consS (WR.listE (WR.nilS ⟨by simp, WR.nilS ?_⟩))⟩))
  have m8 := getElem?_len σ7 (.list [])
  have K8 := Keep.app (fun _ => False) σ7 [.list []]
  have lm : σ.length ≤ σ7.length := Nat.le_trans (Nat.le_trans lens K6.len) K7.len
  have rwm : rwj < σ7.length := by have := lt_of_get l6; have := K7.len; omega
  have wlt : w < σ7.length := by have := lt_of_get hw; have := K2.len; have := K3.len; have := K6.len; have := K7.len; omega
  have slt : s < σ7.length := by have := lt_of_get sg; have := K2.len; have := K3.len; have := K6.len; have := K7.len; omega
  have l1m : σ1.length ≤ σ7.length := by have := K2.len; have := K3.len; have := K6.len; have := K7.len; omega
  have wrw : w < rwj := by have := lt_of_get w3; omega
  have srw : s < rwj := by have := lt_of_get sg; have := K2.len; have := K3.len; omega
  have l13 : σ1.length ≤ rwj := by have := K2.len; have := K3.len; omega
  generalize hmm : σ7.length = mj at *
  generalize σ7 ++ [.list []] = σ8 at *
  have to8 := K8.getF to7
  refine WR.app to8 (by simp; omega) ?_
  have K9 : Keep (· = to) σ8 (σ8.set to (.list ((List.range j).map (fun t => V.ref (D t).m) ++ [.ref mj]))) := Keep.set (S := (· = to)) to8 rfl rfl
  have to9 := get_set (o' := .list ((List.range j).map (fun t => V.ref (D t).m) ++ [.ref mj])) to8
  have m9 := K9.get m8 (by show ¬ mj = to; omega)
  generalize (σ8.set to (.list ((List.range j).map (fun t => V.ref (D t).m) ++ [.ref mj]))) = σ9 at *
  have KA : Keep (Sout ro to tr si σ.length) σ σ9 := by
    refine ((((((K1.then (K2.weak ?_)).then (K3.weak ?_)).addF K6).then (K7.weak ?_)).addF K8).then (K9.weak ?_))
    · rintro i rfl; exact .inr (.inr (.inr (.inl rfl)))
    · rintro i rfl; exact .inr (.inr (.inr (.inr (.inl rfl))))
    · rintro i rfl; exact .inr (.inr (.inr (.inr (.inr (.inl rfl)))))
    · rintro i rfl; exact .inr (.inr (.inr (.inr (.inr (.inr (.inl rfl))))))
  have K19 : Keep (fun i => i = tr ∨ i = si ∨ i = ro ∨ i = to) σ1 σ9 := by
    refine (((((K2.weak ?_).then (K3.weak ?_)).addF K6).then (K7.weak ?_)).addF K8).then (K9.weak ?_)
    · rintro i rfl; exact .inl rfl
    · rintro i rfl; exact .inr (.inl rfl)
    · rintro i rfl; exact .inr (.inr (.inl rfl))
    · rintro i rfl; exact .inr (.inr (.inr rfl))
  have len9 : mj + 1 ≤ σ9.length := lt_of_get m9
  have fpl := fl.lt
  have hR := rowU_row ns j
  have hm := meas_rng ns j
  have rd := round_ok (num_inj ns j) (m := meas ns j) (P := per ns j) (tbl_lt ns j) (by omega) (per_mul ns j) (fun r hr => wgt_rng ns j (tbl_lt ns j) hr)
  rw [← hR] at rd
  have monob : ∀ k l, k ≤ l → l ≤ j → b k ≤ b l := by
    intro k l hkl hl
    induction l with
    | zero => rw [Nat.le_zero.1 hkl]; exact Nat.le_refl _
    | succ l ih =>
      rcases Nat.lt_or_ge k (l + 1) with h1 | h1
      · exact Nat.le_trans (ih (by omega) (by omega)) (mono l (by omega))
      · rw [show k = l + 1 by omega]; exact Nat.le_refl _
  let Dj : TD := ⟨ta, s, mj, fp ta its, ksU ns j 4, per ns j, fun x => lane (tbl ns j) (roadOf (num ns j) x), sorted (rowU ns j 4), kvU ns j 4, some e, roadOf (num ns j)⟩
  have Dok : TDok Dj := by
    refine ⟨rd, ?_, kv_find ns j, ?_, ?_, Nat.lt_of_le_of_lt (ksU_len ns j (Nat.le_refl 4)) (by omega)⟩
    · intro k hk
      obtain ⟨r, hr, rfl⟩ := List.mem_map.1 hk
      rw [List.mem_filter, List.mem_range] at hr
      exact ⟨wgt_pos ns j (by simpa using hr.2), wgt_rng ns j (tbl_lt ns j) hr.1⟩
    · intro hx; have := fpl mj hx; omega
    · intro hx
      rcases List.mem_cons.1 hx with hx | hx
      · have : s = mj := hx; omega
      · exact off1 hx
  have g9 : ∀ i o, σ1[i]? = some o → σ.length ≤ i → σ9[i]? = some o := fun i o e h => K19.get e (by omega)
  refine WS.nil.2 ⟨rfl, ⟨_, _, _, _, _, _, rfl⟩, ?_, KA⟩
  refine ⟨fun t => if t = j then Dj else D t, fun t => if t = j then rwj else rw t, fun t => if t = j + 1 then σ9.length else b t, ?_⟩
  have Dlt : ∀ t, t < j → (if t = j then Dj else D t) = D t := fun t ht => if_neg (by omega)
  have Rlt : ∀ t, t < j → (if t = j then rwj else rw t) = rw t := fun t ht => if_neg (by omega)
  have g9' : ∀ i o, σ[i]? = some o → i ≠ 9 → i ≠ 4 → i ≠ 5 → i ≠ tr → i ≠ si → i ≠ ro → i ≠ to → σ9[i]? = some o := fun i o e h1 h2 h3 h4 h5 h6 h7 => KA.get e (by have := lt_of_get e; omega)
  refine ⟨⟨?_, ?_, ?_, ?_, ?_, ?_, ?_⟩, ?_, ?_, ?_, ?_, ?_, ?_, ?_, ?_, ?_⟩
  · exact ce.keep K19 fun i hi hf => by
      have a1 := celln htr i hi
      have a2 := celln hsi i hi
      have a3 := celln hro i hi
      have a4 := celln hto i hi
      omega
  · exact g9' _ _ pa.c11 (by omega) (by omega) (by omega) (celln htr 11 (by omega)) (celln hsi 11 (by omega)) (celln hro 11 (by omega)) (celln hto 11 (by omega))
  · exact g9' _ _ pa.hnu (cellne pa.hnu).1 (cellne pa.hnu).2.1 (cellne pa.hnu).2.2 n4 n5 n2 n3
  · exact g9' _ _ pa.c8 (by omega) (by omega) (by omega) (celln htr 8 (by omega)) (celln hsi 8 (by omega)) (celln hro 8 (by omega)) (celln hto 8 (by omega))
  · exact g9' _ _ pa.hla (cellne pa.hla).1 (cellne pa.hla).2.1 (cellne pa.hla).2.2 n8 n9 n6 n7
  · exact g9' _ _ pa.c7 (by omega) (by omega) (by omega) (celln htr 7 (by omega)) (celln hsi 7 (by omega)) (celln hro 7 (by omega)) (celln hto 7 (by omega))
  · exact g9' _ _ pa.c6 (by omega) (by omega) (by omega) (celln htr 6 (by omega)) (celln hsi 6 (by omega)) (celln hro 6 (by omega)) (celln hto 6 (by omega))
  · rw [map_upd (fun t => V.ref (D t).ta.a) _ j (fun t ht => by rw [Dlt t ht]), if_pos rfl]
    exact K9.get (K8.getF (K7.get (K6.getF (K3.get tr2 n15)) (by show ¬ tr = ro; omega))) (by show ¬ tr = to; omega)
  · rw [map_upd (fun t => V.ref (D t).s) _ j (fun t ht => by rw [Dlt t ht]), if_pos rfl]
    exact K9.get (K8.getF (K7.get (K6.getF si3) (by show ¬ si = ro; omega))) (by show ¬ si = to; omega)
  · rw [map_upd (fun t => V.ref (rw t)) _ j (fun t ht => by rw [Rlt t ht]), if_pos rfl]
    exact K9.get (K8.getF ro7) (by show ¬ ro = to; omega)
  · rw [map_upd (fun t => V.ref (D t).m) _ j (fun t ht => by rw [Dlt t ht]), if_pos rfl]
    exact to9
  · intro t ht
    rcases Nat.lt_or_ge t j with h | h
    · rw [Dlt t h, Rlt t h]
      obtain ⟨t1, t2, t3⟩ := town t h
      obtain ⟨r1, r2, r3, r4⟩ := rng t h
      have b1 := monob 0 t (by omega) (by omega)
      have b2 := monob (t + 1) j (by omega) (by omega)
      refine ⟨t1.keep KA fun i hi hs => ?_, t2, KA.get t3 (by omega)⟩
      have := r1 i hi
      omega
    · obtain rfl : t = j := by omega
      rw [if_pos rfl, if_pos rfl]
      refine ⟨⟨⟨0, its, kvs, fl.keep K19 (fun i hi hs => ?_), ⟨srt, perm, ?_⟩, fun i => Iff.rfl⟩, g9 _ _ sg low2, m9⟩, ⟨Dok, by rw [← hR], rfl, ⟨e, rfl⟩, rfl⟩, ?_⟩
      · have := low1 i hi
        omega
      · intro p hp'
        have z := zero p hp'
        unfold Val
        rw [Nat.zero_div, Nat.zero_mod, z.1, z.2]
        simp [cnt]
      · exact K9.get (K8.getF (K7.get l6 (by show ¬ rwj = ro; omega))) (by show ¬ rwj = to; omega)
  · intro t ht
    rcases Nat.lt_or_ge t j with h | h
    · rw [Dlt t h, Rlt t h, if_neg (by omega), if_neg (by omega)]
      exact rng t h
    · obtain rfl : t = j := by omega
      rw [if_pos rfl, if_pos rfl, if_pos rfl, if_neg (by omega)]
      refine ⟨?_, by omega, by omega, ?_⟩
      · intro i hi
        rcases List.mem_cons.1 hi with hi | hi
        · have hi : i = s := hi
          omega
        · rcases List.mem_cons.1 hi with hi | hi
          · have hi : i = mj := hi
            omega
          · have a1 := low1 i hi
            have a2 := fpl i hi
            omega
      · intro hx
        rcases List.mem_cons.1 hx with hx | hx
        · have : rwj = mj := hx; omega
        · have := fpl rwj hx; omega
  · intro t ht
    rcases Nat.lt_or_ge t j with h | h
    · rw [if_neg (by omega), if_neg (by omega)]; exact mono t h
    · obtain rfl : t = j := by omega
      rw [if_neg (by omega), if_pos rfl]; omega
  · rw [if_neg (by omega)]; exact ⟨lw1, lw2, lw3, lw4, lw5, lw6, lw7⟩
  · rw [if_pos rfl]; exact Nat.le_refl _
/-- the towns are built -/
theorem segB {ns : List Int} {σ : St} {nu la ro to tr si : Nat} {x0 y4 y5 y6 y7 y8 y9 : Option V} {L : List (Option V)} (h : PA0 ns σ nu la ro to tr si) {P : Fl → List (Option V) → St → Prop} {b : SF}
    (hb : ∀ (σ' : St) (D : Nat → TD) (rw bb : Nat → Nat) (y4 y5 y6 y7 y8 y9 : Option V), BO ns σ' nu la ro to tr si D rw bb 3 → WS (b ⟨x0 :: some (.glob 362) :: some (.ref tr) :: some (.ref si) :: y4 :: y5 :: y6 :: y7 :: y8 :: y9 :: L, CL⟩ σ') P) :
    WS (consL (forS T false (biE rangeV (consS (intE 3) nilS)) (tgC 9) (townB (callN 30))) b ⟨x0 :: some (.glob 362) :: some (.ref tr) :: some (.ref si) :: y4 :: y5 :: y6 :: y7 :: y8 :: y9 :: L, CL⟩ σ) P := by
  have nd := h.nd
  have g4 := getElem?_len σ (.rng 0 3)
  have K4 := Keep.app (fun _ => False) σ [.rng 0 3]
  refine WS.consB ?_
  refine WS.forS (a := .ref σ.length) (σ1 := σ ++ [.rng 0 3]) (kd := .rng 0) (len := 3) rfl (kd_rng g4 rfl rfl rfl) (.inl rfl)
    (fun j lo σ' => σ'[σ.length]? = some (.rng 0 3) ∧ (∃ y4 y5 y6 y7 y8 y9, lo = x0 :: some (.glob 362) :: some (.ref tr) :: some (.ref si) :: y4 :: y5 :: y6 :: y7 :: y8 :: y9 :: L) ∧ ∃ D rw bb, BO ns σ' nu la ro to tr si D rw bb j) ?_ ?_ ?_ ?_
  · refine ⟨g4, ⟨_, _, _, _, _, _, rfl⟩, fun _ => ⟨⟨0, 0, 0, 0, 0, 0, 0⟩, 0, 0, [], [], 0, fun _ => 0, [], [], none, fun _ => 0⟩, fun _ => 0, fun _ => σ.length, ?_⟩
    have l12 : 11 < σ.length := lt_of_get h.c11
    refine ⟨⟨h.ce.keep K4 fun _ _ h => h, K4.getF h.c11, K4.getF h.hnu, K4.getF h.c8, K4.getF h.hla, K4.getF h.c7, K4.getF h.c6⟩, K4.getF h.e0, K4.getF h.s0, K4.getF h.r0, K4.getF h.t0, fun t ht => absurd ht (Nat.not_lt_zero t), fun t ht => absurd ht (Nat.not_lt_zero t), fun t ht => absurd ht (Nat.not_lt_zero t), ⟨by omega, lt_of_get h.hnu, lt_of_get h.hla, lt_of_get h.r0, lt_of_get h.t0, lt_of_get h.e0, lt_of_get h.s0⟩, by simp⟩
  · rintro j lo σ' ⟨g, -⟩
    exact kd_rng g rfl rfl rfl
  · rintro j lo σ' hj ⟨g, ⟨z4, z5, z6, z7, z8, z9, rfl⟩, D, rw, bb, hO⟩
    obtain ⟨o, ho⟩ := hO.pa.ce 9 (by omega)
    refine ⟨.int j, _, σ'.set 9 (.cell (some (.int j))), ?_, tgC_eq (k := 9) rfl ho, ?_⟩
    · rw [it_rng g, Int.zero_add]
    refine (town_step hO hj nd).mono ?_
    rintro fl lo' σ'' ⟨rfl, ⟨u4, u5, u6, u7, u8, u9, rfl⟩, hD, K⟩
    exact ⟨K.getX g rfl, ⟨_, _, _, _, _, _, rfl⟩, hD⟩
  · rintro lo σ' ⟨-, ⟨u4, u5, u6, u7, u8, u9, rfl⟩, D, rw, bb, hO⟩
    exact hb σ' D rw bb u4 u5 u6 u7 u8 u9 hO
end L3
end Mine

end
noncomputable section
open PySem PySem.W PyProof.Rows
set_option linter.unusedVariables false
set_option linter.unusedSimpArgs false
set_option autoImplicit false
set_option Elab.async false
set_option maxRecDepth 100000
set_option maxHeartbeats 1000000
namespace Mine
namespace L3
open R3 (lane outl U Law Acy)
theorem DT.len {ns : List Int} {t : Nat} {D : TD} (h : DT ns t D) : D.R.length = outl (tbl ns t) := by
  have hm := meas_rng ns t
  have nd := row_nodup (num_inj ns t) (m := meas ns t) (i := tbl ns t) (by omega) fun r hr => wgt_rng ns t (tbl_lt ns t) hr
  have hl := row_len (num ns t) (meas ns t) (tbl ns t)
  have := R3.out23 _ (tbl_lt ns t)
  obtain ⟨-, -, -, hp, -⟩ := sort_row (ps := rowOf (num ns t) (meas ns t) (tbl ns t)) (by omega) nd
  rw [h.R, hp.length_eq, hl]
theorem U_filter {D : Nat → TD} (t r : Nat) : ∀ n, n ≤ (D t).R.length → U (fun t => (D t).rd) t r n = (((D t).R.take n).filter fun p => (D t).road p.2 == r).length
  | 0, _ => rfl
  | n + 1, h => by
    rw [R3.U_succ, U_filter t r n (by omega), List.take_succ_eq_append_getElem (by omega), List.filter_append, List.length_append]
    congr 1
    have : (D t).rd n = (D t).road ((D t).R[n]'(by omega)).2 := by
      unfold TD.rd TD.ans
      rw [Nat.mod_eq_of_lt (by omega), List.getD_eq_getElem?_getD, List.getElem?_eq_getElem (by omega)]
      rfl
    rw [this]
    by_cases e : (D t).road ((D t).R[n]'(by omega)).2 = r
    · simp [e]
    · simp [e]
theorem blk_road {nm : Nat → Int} (hn : Inj4 nm) {m : Int} {i s r : Nat} (hs : s < 4) (hr : r < 4) : ((blk nm m i s).filter fun p => roadOf nm p.2 == r).length = if s = r then lane i r else 0 := by
  split
  · rename_i e; subst e
    rw [List.filter_eq_self.2, blk_len]
    intro p hp
    rw [blk_snd hp, roadOf_nm hn hs]; simp
  · rename_i e
    rw [List.filter_eq_nil_iff.2]
    · rfl
    intro p hp
    rw [blk_snd hp, roadOf_nm hn hs]; simpa using e
theorem law_of {ns : List Int} {D : Nat → TD} (h : ∀ t, t < 3 → DT ns t (D t)) : Law (fun t => (D t).rd) (tbl ns) := by
  refine ⟨⟨?_, ?_, ?_, ?_⟩, fun t _ => tbl_lt ns t⟩
  · intro t ht k
    unfold TD.rd TD.ans
    rw [← (h t ht).len, Nat.add_mod_right]
  · intro t ht r hr
    have hm := meas_rng ns t
    have nd := row_nodup (num_inj ns t) (m := meas ns t) (i := tbl ns t) (by omega) fun r hr => wgt_rng ns t (tbl_lt ns t) hr
    have hl := row_len (num ns t) (meas ns t) (tbl ns t)
    have := R3.out23 _ (tbl_lt ns t)
    obtain ⟨-, -, -, hp, -⟩ := sort_row (ps := rowOf (num ns t) (meas ns t) (tbl ns t)) (by omega) nd
    rw [← (h t ht).len, U_filter t r _ (Nat.le_refl _), List.take_length, (h t ht).road, (h t ht).R, (hp.filter _).length_eq]
    unfold rowOf
    simp only [List.filter_append, List.length_append, blk_road (num_inj ns t) (show 0 < 4 by omega) hr, blk_road (num_inj ns t) (show 1 < 4 by omega) hr, blk_road (num_inj ns t) (show 2 < 4 by omega) hr, blk_road (num_inj ns t) (show 3 < 4 by omega) hr]
    have : r = 0 ∨ r = 1 ∨ r = 2 ∨ r = 3 := by omega
    rcases this with rfl | rfl | rfl | rfl <;> simp
  · intro t ht
    have := R3.out23 _ (tbl_lt ns t)
    show 0 < outl (tbl ns t)
    omega
  · intro t ht k
    unfold TD.rd
    rw [(h t ht).road]
    exact roadOf_lt _ _
/-- the world behind the build -/
structure Wld (ns : List Int) (σ : St) (nu la ro to tr si : Nat) (D : Nat → TD) (rw n : Nat → Nat) : Prop where
  pa : PA ns σ nu la ro to tr si
  trio : Trio σ D n tr si to
  hro : σ[ro]? = some (.list [.ref (rw 0), .ref (rw 1), .ref (rw 2)])
  rws : ∀ t, t < 3 → σ[rw t]? = some (.list ((D t).R.map fun p => .int p.2))
structure Sta (ns : List Int) (nu la ro to tr si : Nat) (D : Nat → TD) (rw : Nat → Nat) : Prop where
  sp : Sep D tr si to
  dt : ∀ t, t < 3 → DT ns t (D t)
  cm : ∀ j, j < 12 → ¬ Mut D j
  mnu : ¬ Mut D nu
  mla : ¬ Mut D la
  mro : ¬ Mut D ro
  mrw : ∀ t, t < 3 → ¬ Mut D (rw t)
theorem world_of {ns : List Int} {σ : St} {nu la ro to tr si : Nat} {D : Nat → TD} {rw b : Nat → Nat} (h : BO ns σ nu la ro to tr si D rw b 3) : Sta ns nu la ro to tr si D rw ∧ Wld ns σ nu la ro to tr si D rw fun _ => 0 := by
  obtain ⟨pa, htr, hsi, hro, hto, town, rng, mono, ⟨lw1, lw2, lw3, lw4, lw5, lw6, lw7⟩, top⟩ := h
  have m0 := mono 0 (by omega)
  have m1 := mono 1 (by omega)
  have m2 := mono 2 (by omega)
  have inr : ∀ t, t < 3 → ∀ i ∈ (D t).m :: (D t).f, b t ≤ i ∧ i < b (t + 1) := fun t ht i hi => (rng t ht).1 i (List.mem_cons_of_mem _ hi)
  have lowM : ∀ i, Mut D i → b 0 ≤ i := by
    rintro i ⟨t, ht, hi⟩
    have := inr t ht i hi
    have : t = 0 ∨ t = 1 ∨ t = 2 := by omega
    rcases this with rfl | rfl | rfl <;> simp only [Nat.reduceAdd] at * <;> omega
  have only : ∀ t, t < 3 → ∀ i, b t ≤ i → i < b (t + 1) → Mut D i → i ∈ (D t).m :: (D t).f := by
    rintro t ht i h1 h2 ⟨u, hu, hi⟩
    have h3 := inr u hu i hi
    have : u = t := by
      have a : t = 0 ∨ t = 1 ∨ t = 2 := by omega
      have c : u = 0 ∨ u = 1 ∨ u = 2 := by omega
      rcases a with rfl | rfl | rfl <;> rcases c with rfl | rfl | rfl <;> simp only [Nat.reduceAdd] at * <;> omega
    subst this; exact hi
  refine ⟨⟨⟨fun t ht => (town t ht).2.1.ok, ?_, ?_, ?_, ?_, ?_⟩, fun t ht => (town t ht).2.1, ?_, ?_, ?_, ?_, ?_⟩, ⟨pa, ⟨fun t ht => (town t ht).1, htr, hsi, hto⟩, hro, fun t ht => (town t ht).2.2⟩⟩
  · intro t u ht hu hne i hi hi2
    have h1 := inr t ht i hi
    have h2 := inr u hu i hi2
    have a : t = 0 ∨ t = 1 ∨ t = 2 := by omega
    have c : u = 0 ∨ u = 1 ∨ u = 2 := by omega
    rcases a with rfl | rfl | rfl <;> rcases c with rfl | rfl | rfl <;> simp only [Nat.reduceAdd] at * <;> omega
  · intro u hu hm
    have h1 := (rng u hu).1 _ (List.mem_cons_self ..)
    exact (town u hu).2.1.ok.sf (only u hu _ h1.1 h1.2 hm)
  · intro hm; have := lowM _ hm; omega
  · intro hm; have := lowM _ hm; omega
  · intro hm; have := lowM _ hm; omega
  · intro j hj hm; have := lowM _ hm; omega
  · intro hm; have := lowM _ hm; omega
  · intro hm; have := lowM _ hm; omega
  · intro hm; have := lowM _ hm; omega
  · intro t ht hm
    obtain ⟨-, r2, r3, r4⟩ := rng t ht
    exact r4 (only t ht _ r2 r3 hm)
section
variable {ns : List Int} {σ σ' : St} {nu la ro to tr si : Nat} {D : Nat → TD} {rw n n' : Nat → Nat}
theorem Wld.mut (h : Wld ns σ nu la ro to tr si D rw n) (s : Sta ns nu la ro to tr si D rw) (K : Keep (Mut D) σ σ') (T : Trio σ' D n' tr si to) : Wld ns σ' nu la ro to tr si D rw n' := by
  obtain ⟨⟨p1, p2, p3, p4, p5, p6, p7⟩, -, h3, h4⟩ := h
  exact ⟨⟨p1.keep K s.cm, K.get p2 (s.cm _ (by omega)), K.get p3 s.mnu, K.get p4 (s.cm _ (by omega)), K.get p5 s.mla, K.get p6 (s.cm _ (by omega)), K.get p7 (s.cm _ (by omega))⟩, T, K.get h3 s.mro, fun t ht => K.get (h4 t ht) (s.mrw t ht)⟩
theorem Wld.keepF (h : Wld ns σ nu la ro to tr si D rw n) (s : Sta ns nu la ro to tr si D rw) (K : Keep (fun _ => False) σ σ') : Wld ns σ' nu la ro to tr si D rw n :=
  h.mut s (K.weak fun _ h => h.elim) (h.trio.keep s.sp K fun _ h => h.elim)
theorem Wld.setC (h : Wld ns σ nu la ro to tr si D rw n) (s : Sta ns nu la ro to tr si D rw) {c : Nat} (hc : c < 12) (h1 : c ≠ 11) (h2 : c ≠ 8) (h3 : c ≠ 7) (h4 : c ≠ 6) (v : Option V) : Wld ns (σ.set c (.cell v)) nu la ro to tr si D rw n := by
  obtain ⟨o, ho⟩ := h.pa.ce c hc
  have K : Keep (· = c) σ (σ.set c (.cell v)) := Keep.set (S := (· = c)) ho rfl rfl
  obtain ⟨⟨p1, p2, p3, p4, p5, p6, p7⟩, t, h5, h6⟩ := h
  have nl : ∀ {i : Nat} {vs : List V}, σ[i]? = some (.list vs) → i ≠ c := fun e => ne_of_get e ho (by simp)
  refine ⟨⟨p1.set hc v, K.get p2 (Ne.symm h1), K.get p3 (nl p3), K.get p4 (Ne.symm h2), K.get p5 (nl p5), K.get p6 (Ne.symm h3), K.get p7 (Ne.symm h4)⟩, t.keep s.sp K ?_, K.get h5 (nl h5), fun t ht => K.get (h6 t ht) (nl (h6 t ht))⟩
  intro i hi
  have hi : i = c := hi
  subst hi
  refine ⟨Ne.symm (nl t.tr), Ne.symm (nl t.si), Ne.symm (nl t.to), fun u hu hx => ?_⟩
  rcases List.mem_cons.1 hx with hx | hx
  · exact ne_of_get (t.t u hu).sg ho (by simp) hx.symm
  · exact s.cm _ hc ⟨u, hu, hx⟩
end
end L3
end Mine

end
noncomputable section
open PySem PySem.W PyProof.Rows
set_option linter.unusedVariables false
set_option linter.unusedSimpArgs false
set_option autoImplicit false
set_option Elab.async false
set_option maxRecDepth 100000
set_option maxHeartbeats 1000000
namespace Mine
namespace L3
open R3 (lane outl U Law Acy upd)
abbrev RD (D : Nat → TD) : Nat → Nat → Nat := fun t => (D t).rd
theorem step30 {σ : St} {D : Nat → TD} {n : Nat → Nat} {tr si to p : Nat} (sp : Sep D tr si to) (h : Trio σ D n tr si to) (hp : p < 3) (hn : n p < 16000000) :
    WR (callN 30 20 [.ref (D p).ta.a, .ref (D p).s, .ref (D p).m] σ) fun v σ' => v = .int ((D p).rd (n p)) ∧ Trio σ' D (upd n p) tr si to ∧ Keep (Mut D) σ σ' := trio_step 14 sp h hp hn
theorem walk30 {σ : St} {D : Nat → TD} {n n' : Nat → Nat} {tr si to p r : Nat} (sp : Sep D tr si to) (h : Trio σ D n tr si to) (hp : p < 3) (hn : ∀ t, n t + 9 < 16000000) (hw : R3.walk (RD D) 9 n p = some (r, n')) :
    WR (callN 30 21 [.ref tr, .ref si, .ref to, .int p] σ) fun v σ' => v = .int r ∧ Trio σ' D n' tr si to ∧ Keep (Mut D) σ σ' := walk_ok 12 sp h hp hn hw
/-- a goal comes within three turns -/
theorem goal3 {rd : Nat → Nat → Nat} {ti : Nat → Nat} (l : Law rd ti) {t : Nat} (ht : t < 3) : ∃ K, K ≤ 2 ∧ 2 ≤ rd t K ∧ ∀ i, i < K → rd t i < 2 := by
  have o23 := R3.out23 _ (l.ti t ht)
  have hg : ∀ i, i < 8 → 1 ≤ lane i 2 + lane i 3 := by decide
  have hg := hg _ (l.ti t ht)
  have c2 := l.rot.cnt t ht 2 (by omega)
  have c3 := l.rot.cnt t ht 3 (by omega)
  by_cases h0 : 2 ≤ rd t 0
  · exact ⟨0, by omega, h0, fun i hi => absurd hi (Nat.not_lt_zero i)⟩
  by_cases h1 : 2 ≤ rd t 1
  · exact ⟨1, by omega, h1, fun i hi => by rw [show i = 0 by omega]; omega⟩
  by_cases h2 : 2 ≤ rd t 2
  · refine ⟨2, by omega, h2, fun i hi => ?_⟩
    have : i = 0 ∨ i = 1 := by omega
    rcases this with rfl | rfl <;> omega
  · exfalso
    rcases o23 with e | e <;> rw [e] at c2 c3 <;> simp only [U] at c2 c3 <;> (repeat (split at c2 <;> try omega)) <;> (repeat (split at c3 <;> try omega)) <;> omega
variable {ns : List Int} {nu la ro to tr si : Nat} {D : Nat → TD} {rw : Nat → Nat}
abbrev whileC (call : CallF) : SF := (whileL (truE (cmpE T call .lt (locE 8) (intE 2)))
 (consL (asgL 8 (callE call 20 (consS (subE T (locE 2) (celE 9)) (consS (subE T (locE 3) (celE 9)) (consS (subE T (celE 6) (celE 9)) nilS)))))
 (consL (ifS (orB (truE (cmpE T call .lt (locE 8) (intE 0))) (orB (truE (cmpE T call .gt (biE (lenV T) (consS (subE T (celE 6) (celE 9)) nilS)) (intE 3))) ffB))
 (consL (retS (boolE false))
 nilL)
 nilL)
 nilL)) fuel)
theorem loopC (s : Sta ns nu la ro to tr si D rw) {t K : Nat} (ht : t < 3) (hK : K ≤ 2) (hr : 2 ≤ (D t).rd K) (hlow : ∀ i, i < K → (D t).rd i < 2) {x0 x1 y4 y5 y6 y7 y9 : Option V} {L : List (Option V)} :
    ∀ (d k fu : Nat) (σ : St) (n : Nat → Nat) (r : Nat), k + d = K + 1 → d < fu → n t = k → (d = 0 → 2 ≤ r) → (0 < d → r < 2) → Wld ns σ nu la ro to tr si D rw n → σ[9]? = some (.cell (some (.int t))) →
    WS (whileL (truE (cmpE T (callN 30) .lt (locE 8) (intE 2)))
 (consL (asgL 8 (callE (callN 30) 20 (consS (subE T (locE 2) (celE 9)) (consS (subE T (locE 3) (celE 9)) (consS (subE T (celE 6) (celE 9)) nilS)))))
 (consL (ifS (orB (truE (cmpE T (callN 30) .lt (locE 8) (intE 0))) (orB (truE (cmpE T (callN 30) .gt (biE (lenV T) (consS (subE T (celE 6) (celE 9)) nilS)) (intE 3))) ffB))
 (consL (retS (boolE false))
 nilL)
 nilL)
 nilL)) fu ⟨x0 :: x1 :: some (.ref tr) :: some (.ref si) :: y4 :: y5 :: y6 :: y7 :: some (.int r) :: y9 :: L, CL⟩ σ) fun fl lo' σ' => fl = .next ∧ (∃ y8, lo' = x0 :: x1 :: some (.ref tr) :: some (.ref si) :: y4 :: y5 :: y6 :: y7 :: y8 :: y9 :: L) ∧ Keep (Mut D) σ σ' ∧ ∃ n', Wld ns σ' nu la ro to tr si D rw n' ∧ n' t = K + 1 ∧ ∀ u, u ≠ t → n' u = n u
  | 0, k, fu, σ, n, r, hk, hf, hn, h0, h1, hW, h9 => by
    obtain ⟨fu, rfl⟩ : ∃ f, fu = f + 1 := ⟨fu - 1, by omega⟩
    have e : decide ((r : Int) < 2) = false := decide_eq_false (by have := h0 rfl; omega)
    refine WS.whileF (WR.truE (WR.cmpE (WR.locE rfl (WR.intE ?_))))
    simp only [cmpV, WR.ok, truV, e, true_and]
    exact ⟨⟨_, rfl⟩, Keep.refl _ _, n, hW, by omega, fun _ _ => rfl⟩
  | d + 1, k, fu, σ, n, r, hk, hf, hn, h0, h1, hW, h9 => by
    obtain ⟨fu, rfl⟩ : ∃ f, fu = f + 1 := ⟨fu - 1, by omega⟩
    have e : decide ((r : Int) < 2) = true := decide_eq_true (by have := h1 (by omega); omega)
    refine WS.whileT (WR.truE (WR.cmpE (WR.locE rfl (WR.intE ?_))))
    simp only [cmpV, WR.ok, truV, e, true_and]
    have T2 := hW.trio
    refine WS.asgL (WR.callE (WR.consS (WR.subE (WR.locE rfl (WR.of_eq (cel9 h9) (WR.getL T2.tr t rfl (pick3 (fun t => V.ref (D t).ta.a) ht) ?_))))))
    refine (WR.consS (WR.subE (WR.locE rfl (WR.of_eq (cel9 h9) (WR.getL T2.si t rfl (pick3 (fun t => V.ref (D t).s) ht) ?_)))))
    refine (WR.consS (WR.subE (WR.celE (k := 6) rfl hW.pa.c6 (WR.of_eq (cel9 h9) (WR.getL T2.to t rfl (pick3 (fun t => V.ref (D t).m) ht) (WR.nilS ?_))))))
    refine (step30 s.sp T2 ht (by omega)).mono ?_
    rintro v σ2 ⟨rfl, T3, K3⟩
    have W3 := hW.mut s K3 T3
    have c9 := K3.get h9 (s.cm 9 (by omega))
    simp only [setLo, List.set_cons_succ, List.set_cons_zero]
    have e0 : decide ((((D t).rd (n t) : Nat) : Int) < 0) = false := decide_eq_false (by omega)
    have nt : upd n t t = k + 1 := by unfold upd; rw [if_pos rfl, hn]
    have e3 : decide ((((List.range (upd n t t)).map fun k => V.int ((D t).ans k)).length : Int) > 3) = false := decide_eq_false (by rw [List.length_map, List.length_range, nt]; omega)
    refine WS.ifF (WR.orF (WR.truE (WR.cmpE (WR.locE rfl (WR.intE ?_)))))
    simp only [cmpV, WR.ok, truV, e0, true_and]
    refine WR.orF (WR.truE (WR.cmpE (WR.biE (WR.consS (WR.subE (WR.celE (k := 6) rfl W3.pa.c6 (WR.of_eq (cel9 c9) (WR.getL T3.to t rfl (pick3 (fun t => V.ref (D t).m) ht) (WR.nilS (WR.lenL (T3.t t ht).an (WR.intE ?_)))))))))))
    simp only [cmpV, WR.ok, truV, e3, true_and]
    refine WR.ffB ⟨rfl, WS.nilCons.2 (WS.nil.2 ?_)⟩
    refine (loopC s ht hK hr hlow d (k + 1) fu σ2 (upd n t) ((D t).rd (n t)) (by omega) (by omega) nt ?_ ?_ W3 c9).mono ?_
    · intro hd
      rw [hn, show k = K by omega]; exact hr
    · intro hd
      rw [hn]; exact hlow k (by omega)
    · rintro fl lo' σ' ⟨rfl, hlo, Kr, n', Wr, h1, h2⟩
      refine ⟨rfl, hlo, K3.then Kr, n', Wr, h1, fun u hu => ?_⟩
      rw [h2 u hu]; unfold upd; rw [if_neg hu]
/-- each tree is asked till it tells a goal -/
theorem segC (s : Sta ns nu la ro to tr si D rw) {σ : St} (hW : Wld ns σ nu la ro to tr si D rw fun _ => 0) {x0 x1 y4 y5 y6 y7 y8 y9 : Option V} {L : List (Option V)} {P : Fl → List (Option V) → St → Prop} {b : SF}
    (hb : ∀ (σ' : St) (n : Nat → Nat) (y8 : Option V), Wld ns σ' nu la ro to tr si D rw n → (∀ t, t < 3 → 1 ≤ n t ∧ n t ≤ 3 ∧ 2 ≤ (D t).rd (n t - 1)) → (∀ t, 3 ≤ t → n t = 0) → WS (b ⟨x0 :: x1 :: some (.ref tr) :: some (.ref si) :: y4 :: y5 :: y6 :: y7 :: y8 :: y9 :: L, CL⟩ σ') P) :
    WS (consL (forS T false (biE rangeV (consS (intE 3) nilS)) (tgC 9)
 (consL (asgL 8 (intE 0))
 (consL (whileC (callN 30))
 nilL))) b ⟨x0 :: x1 :: some (.ref tr) :: some (.ref si) :: y4 :: y5 :: y6 :: y7 :: y8 :: y9 :: L, CL⟩ σ) P := by
  have g4 := getElem?_len σ (.rng 0 3)
  have K4 := Keep.app (fun _ => False) σ [.rng 0 3]
  have l := law_of s.dt
  refine WS.consB ?_
  refine WS.forS (a := .ref σ.length) (σ1 := σ ++ [.rng 0 3]) (kd := .rng 0) (len := 3) rfl (kd_rng g4 rfl rfl rfl) (.inl rfl)
    (fun j lo σ' => σ'[σ.length]? = some (.rng 0 3) ∧ (∃ y8, lo = x0 :: x1 :: some (.ref tr) :: some (.ref si) :: y4 :: y5 :: y6 :: y7 :: y8 :: y9 :: L) ∧ ∃ n, Wld ns σ' nu la ro to tr si D rw n ∧ (∀ t, t < j → 1 ≤ n t ∧ n t ≤ 3 ∧ 2 ≤ (D t).rd (n t - 1)) ∧ ∀ t, j ≤ t → n t = 0) ?_ ?_ ?_ ?_
  · exact ⟨g4, ⟨_, rfl⟩, _, hW.keepF s K4, fun t ht => absurd ht (Nat.not_lt_zero t), fun _ _ => rfl⟩
  · rintro j lo σ' ⟨g, -⟩
    exact kd_rng g rfl rfl rfl
  · rintro j lo σ' hj ⟨g, ⟨z8, rfl⟩, n, hW, hn, hn0⟩
    obtain ⟨o, ho⟩ := hW.pa.ce 9 (by omega)
    refine ⟨.int j, _, σ'.set 9 (.cell (some (.int j))), ?_, tgC_eq (k := 9) rfl ho, ?_⟩
    · rw [it_rng g, Int.zero_add]
    have W9 := hW.setC s (c := 9) (by omega) (by omega) (by omega) (by omega) (by omega) (some (.int j))
    have c9 := get_set (o' := .cell (some (.int j))) ho
    have K9 : Keep (· = 9) σ' (σ'.set 9 (.cell (some (.int j)))) := Keep.set (S := (· = 9)) ho rfl rfl
    have g9 := K9.getX g rfl
    generalize σ'.set 9 (.cell (some (.int j))) = σ2 at *
    obtain ⟨K, k1, k2, k3⟩ := goal3 l hj
    refine WS.asgL (WR.intE ?_)
    simp only [setLo, List.set_cons_succ, List.set_cons_zero]
    refine WS.consB ?_
    have hnj : n j = 0 := hn0 j (Nat.le_refl _)
    refine (loopC s hj k1 k2 k3 (K + 1) 0 fuel σ2 n 0 (by omega) (by show _ < 100000; omega) hnj (fun h => by omega) (fun _ => by omega) W9 c9).mono ?_
    rintro fl lo' σ3 ⟨rfl, ⟨w8, rfl⟩, Kr, n', Wr, h1, h2⟩
    refine WS.nil.2 ⟨Kr.getX g9 rfl, ⟨_, rfl⟩, n', Wr, fun t ht => ?_, fun t ht => ?_⟩
    · rcases Nat.lt_or_ge t j with h | h
      · rw [h2 t (by omega)]; exact hn t h
      · obtain rfl : t = j := by omega
        rw [h1]
        exact ⟨by omega, by omega, by rw [Nat.add_sub_cancel]; exact k2⟩
    · rw [h2 t (by omega)]; exact hn0 t (by omega)
  · rintro lo σ' ⟨-, ⟨z8, rfl⟩, n, hW, hn, hn0⟩
    exact hb σ' n z8 hW hn hn0
theorem acy_goal {rd : Nat → Nat → Nat} {ti : Nat → Nat} (l : Law rd ti) {n : Nat → Nat} (h : ∀ t, t < 3 → 1 ≤ n t ∧ n t ≤ 3 ∧ 2 ≤ rd t (n t - 1)) : Acy rd (R3.oo ti) n 3 := by
  refine ⟨fun _ => 0, fun t ht _ => .inl ?_⟩
  obtain ⟨h1, -, h2⟩ := h t ht
  rw [show n t + R3.oo ti t - 1 = (n t - 1) + outl (ti t) by show n t + outl (ti t) - 1 = _; omega]
  have := l.rot.per t ht (n t - 1)
  rw [this]; exact h2
/-- walkers ahead -/
theorem segD (s : Sta ns nu la ro to tr si D rw) {σ : St} {n : Nat → Nat} (hW : Wld ns σ nu la ro to tr si D rw n) (ha : Acy (RD D) (R3.oo (tbl ns)) n 3) (hn : ∀ t, n t ≤ 3) {x0 x1 y4 y5 y6 y7 y8 y9 y10 : Option V} {L : List (Option V)} {P : Fl → List (Option V) → St → Prop} {b : SF}
    (hb : ∀ (σ' : St) (n : Nat → Nat) (y10 : Option V), Wld ns σ' nu la ro to tr si D rw n → Acy (RD D) (R3.oo (tbl ns)) n 3 → (∀ t, n t ≤ 30) → WS (b ⟨x0 :: x1 :: some (.ref tr) :: some (.ref si) :: y4 :: y5 :: y6 :: y7 :: y8 :: y9 :: y10 :: L, CL⟩ σ') P) :
    WS (consL (forS T false (biE rangeV (consS (binE .mod (subE T (celE 11) (intE 7)) (intE 3)) nilS)) (tgL 10)
 (consL (ifS (truE (cmpE T (callN 30) .lt (callE (callN 30) 21 (consS (locE 2) (consS (locE 3) (consS (celE 6) (consS (binE .mod (binE .add (binE .fdiv (subE T (celE 11) (intE 7)) (intE 3)) (locE 10)) (intE 3)) nilS))))) (intE 0)))
 (consL (retS (boolE false))
 nilL)
 nilL)
 nilL)) b ⟨x0 :: x1 :: some (.ref tr) :: some (.ref si) :: y4 :: y5 :: y6 :: y7 :: y8 :: y9 :: y10 :: L, CL⟩ σ) P := by
  have l := law_of s.dt
  refine WS.consB ?_
  have hm : (nq ns 7).fmod 3 = (((nq ns 7 % 3).toNat : Nat) : Int) := by rw [Int.fmod_eq_emod_of_nonneg _ (by decide)]; omega
  have hm3 : (nq ns 7 % 3).toNat < 3 := by omega
  have er : biE rangeV (consS (binE .mod (subE T (celE 11) (intE 7)) (intE 3)) nilS) ⟨x0 :: x1 :: some (.ref tr) :: some (.ref si) :: y4 :: y5 :: y6 :: y7 :: y8 :: y9 :: y10 :: L, CL⟩ σ = some (.ok (.ref σ.length) (σ ++ [.rng 0 ((nq ns 7 % 3).toNat : Nat)])) := by
    have : WR (binE .mod (subE T (celE 11) (intE 7)) (intE 3) ⟨x0 :: x1 :: some (.ref tr) :: some (.ref si) :: y4 :: y5 :: y6 :: y7 :: y8 :: y9 :: y10 :: L, CL⟩ σ) fun v σ' => v = .int ((nq ns 7 % 3).toNat : Nat) ∧ σ' = σ := by
      refine WR.binE (WR.nums (j := 7) rfl hW.pa.c11 hW.pa.hnu (by omega) (WR.intE (WR.mod (by decide) ?_)))
      rw [hm]; exact ⟨rfl, rfl⟩
    obtain ⟨v, σ', e1, rfl, rfl⟩ := this
    simp only [biE, consS, nilS, e1, bindR, rangeV]
  generalize (nq ns 7 % 3).toNat = c at *
  have g4 := getElem?_len σ (.rng 0 (c : Nat))
  have K4 := Keep.app (fun _ => False) σ [.rng 0 (c : Nat)]
  refine WS.forS (a := .ref σ.length) (σ1 := σ ++ [.rng 0 (c : Nat)]) (kd := .rng 0) (len := c) er (kd_rng g4 rfl (small_of (by omega) (by omega)) (by omega)) (.inl rfl)
    (fun j lo σ' => σ'[σ.length]? = some (.rng 0 (c : Nat)) ∧ (∃ y10, lo = x0 :: x1 :: some (.ref tr) :: some (.ref si) :: y4 :: y5 :: y6 :: y7 :: y8 :: y9 :: y10 :: L) ∧ ∃ n, Wld ns σ' nu la ro to tr si D rw n ∧ Acy (RD D) (R3.oo (tbl ns)) n 3 ∧ ∀ t, n t ≤ 3 + 9 * j) ?_ ?_ ?_ ?_
  · exact ⟨g4, ⟨_, rfl⟩, n, hW.keepF s K4, ha, fun t => by have := hn t; omega⟩
  · rintro j lo σ' ⟨g, -⟩
    exact kd_rng g rfl (small_of (by omega) (by omega)) (by omega)
  · rintro j lo σ' hj ⟨g, ⟨z, rfl⟩, n, hW, ha, hn⟩
    refine ⟨.int j, x0 :: x1 :: some (.ref tr) :: some (.ref si) :: y4 :: y5 :: y6 :: y7 :: y8 :: y9 :: some (.int j) :: L, σ', ?_, rfl, ?_⟩
    · rw [it_rng g, Int.zero_add]
    have hp : (((nq ns 7).fdiv 3 + (j : Int)) % 3).toNat < 3 := by omega
    obtain ⟨r, n', hw, r2, r4, ha', hle⟩ := l.walk ha hp
    refine WS.ifF (WR.truE (WR.cmpE (WR.callE (WR.consS (WR.locE rfl (WR.consS (WR.locE rfl (WR.consS (WR.celE (k := 6) rfl hW.pa.c6 (WR.consS (WR.binE (WR.binE (WR.binE (WR.nums (j := 7) rfl hW.pa.c11 hW.pa.hnu (by omega) (WR.intE (WR.fdiv (by decide) rfl (WR.locE rfl (WR.add (WR.intE (WR.mod (by decide) (WR.nilS ?_)))))))))))))))))))))
    have em : ((nq ns 7).fdiv 3 + (j : Int)).fmod 3 = (((((nq ns 7).fdiv 3 + (j : Int)) % 3).toNat : Nat) : Int) := by rw [Int.fmod_eq_emod_of_nonneg _ (by decide)]; omega
    rw [em]
    refine (walk30 s.sp hW.trio hp (fun t => by have := hn t; omega) hw).mono ?_
    rintro v σ2 ⟨rfl, T2, K2⟩
    have e0 : decide ((r : Int) < 0) = false := decide_eq_false (by omega)
    refine WR.intE ?_
    simp only [cmpV, WR.ok, truV, e0, true_and]
    refine WS.nilCons.2 (WS.nil.2 ⟨K2.getX g rfl, ⟨_, rfl⟩, n', hW.mut s K2 T2, ha', fun t => ?_⟩)
    have h1 := hn t
    have h2 := hle t
    omega
  · rintro lo σ' ⟨-, ⟨z, rfl⟩, n, hW, ha, hn⟩
    exact hb σ' n z hW ha fun t => by have := hn t; omega
end L3
end Mine

end
noncomputable section
open PySem PySem.W PyProof.Rows
set_option linter.unusedVariables false
set_option linter.unusedSimpArgs false
set_option autoImplicit false
set_option Elab.async false
set_option maxRecDepth 100000
set_option maxHeartbeats 1000000
namespace Mine
namespace L3
open R3 (lane outl U Law Acy upd whl cof com net)
theorem WR.neg {Q : V → St → Prop} {σ : St} {i : Int} (q : Q (.int (-i)) σ) : WR (negV (.int i) σ) Q := ⟨_, _, rfl, q⟩
theorem map_succ {α : Type} (f : Nat → α) (j : Nat) : (List.range (j + 1)).map f = (List.range j).map f ++ [f j] := by rw [List.range_succ, List.map_append]; rfl
theorem WS.asgK {T : Tab} {i : Nat} {tup : Bool} {it : EF} {nl no : Nat} {fr : List Nat} {a : V} {kd : Kd} {len : Nat} {tf : TF} {test : Option EFb} {elt : EF} {le : Le} {σ σ1 : St} {b : SF} {P : Fl → List (Option V) → St → Prop} (hi : it le σ = some (.ok a σ1)) (hd : kdOf T a σ1 = some (kd, len)) (ht : tup = false ∨ kd = .list) (I : Nat → List (Option V) → St → List V → Prop)
    (h0 : I 0 (List.replicate nl none) (σ1 ++ List.replicate no (.cell none)) []) (hk : ∀ j lo σ ys, I j lo σ ys → kdOf T a σ = some (kd, len))
    (step : ∀ j lo σ ys, j < len → I j lo σ ys → ys.length < 16777216 ∧ ∃ v lo1 σ2, itemAt T a j σ = some v ∧ tf v ⟨lo, (List.range no).map (σ1.length + ·) ++ fr.map fun j => (le.cl[j]?).getD 0⟩ σ = some (lo1, σ2) ∧ WR (testE test ⟨lo1, (List.range no).map (σ1.length + ·) ++ fr.map fun j => (le.cl[j]?).getD 0⟩ σ2) fun t σ3 => if t then WR (elt ⟨lo1, (List.range no).map (σ1.length + ·) ++ fr.map fun j => (le.cl[j]?).getD 0⟩ σ3) fun y σ4 => I (j + 1) lo1 σ4 (ys ++ [y]) else I (j + 1) lo1 σ3 ys)
    (done : ∀ lo σ ys, I len lo σ ys → WS (b ⟨setLo i (.ref σ.length) le.lo, le.cl⟩ (σ ++ [.list ys])) P) : WS (consL (Mine.asgK T i tup it nl no fr tf test elt) b le σ) P := by
  obtain ⟨σ', ys', lo', e, q⟩ := compR_ok (le := le) hd ht I h0 hk step
  unfold consL Mine.asgK
  rw [hi]
  show WS (bindS ((compR T tup nl no fr tf test elt le a σ1).map _) _) P
  rw [e]
  exact done _ _ _ q
theorem det30 {σ : St} {k : Nat} {rows : List (List Int)} (hl : rows.length = 3) (hr : ∀ row ∈ rows, row.length = 3 ∧ ∀ x ∈ row, -1000 < x ∧ x < 1000) (h : RowsAt σ k rows) :
    WR (callN 30 18 [.ref k] σ) fun v σ' => v = .int (det 3 rows) ∧ Keep (fun _ => False) σ σ' := det_ok 3 rows hl hr (by omega) 22 σ k h
theorem det30' {σ : St} {k : Nat} {rows : List (List Int)} (hl : rows.length = 2) (hr : ∀ row ∈ rows, row.length = 2 ∧ ∀ x ∈ row, -1000 < x ∧ x < 1000) (h : RowsAt σ k rows) :
    WR (callN 30 18 [.ref k] σ) fun v σ' => v = .int (det 2 rows) ∧ Keep (fun _ => False) σ σ' := det_ok 2 rows hl hr (by omega) 24 σ k h
theorem common30 {σ : St} (a b : Nat) (hb : b < 100000) : WR (callN 30 19 [.int a, .int b] σ) fun v σ' => v = .int (Nat.gcd a b : Nat) ∧ Keep (fun _ => False) σ σ' := common_ok 28 a b hb
theorem sum_lane {σ : St} : ∀ i, i < 8 → sumV T [.glob (lgl i)] σ = some (.ok (.int (outl i : Nat)) σ) := by
  intro i hi
  match i, hi with
  | 0, _ => rfl
  | 1, _ => rfl
  | 2, _ => rfl
  | 3, _ => rfl
  | 4, _ => rfl
  | 5, _ => rfl
  | 6, _ => rfl
  | 7, _ => rfl
def ent (ti : Nat → Nat) (t u : Nat) : Int := if t = u then (outl (ti t) : Int) else -(lane (ti t) ((u + 2 - t) % 3) : Int)
theorem net_eq (ti : Nat → Nat) : net ti = (List.range 3).map fun t => (List.range 3).map fun u => ent ti t u := by
  simp [net, ent, List.range_succ]
theorem det_whl (ti : Nat → Nat) : det 3 (net ti) = whl ti := by
  simp [det, net, whl, R3.D3, R3.D2, sgn, List.range_succ]
  grind
/-- the table without a row and a column -/
def minor (ti : Nat → Nat) (s t : Nat) : List (List Int) := ((List.range 3).filter fun u => u != t).map fun u => ((List.range 3).map fun v => ent ti u v).take s ++ ((List.range 3).map fun v => ent ti u v).drop (s + 1)
theorem det_cof (ti : Nat → Nat) {s t : Nat} (hs : s < 3) (ht : t < 3) : det 2 (minor ti s t) * (if (t + s) % 2 = 0 then 1 else -1) = cof ti s t := by
  have h1 : s = 0 ∨ s = 1 ∨ s = 2 := by omega
  have h2 : t = 0 ∨ t = 1 ∨ t = 2 := by omega
  rcases h1 with rfl | rfl | rfl <;> rcases h2 with rfl | rfl | rfl <;> simp [det, minor, ent, cof, R3.C9, R3.D2, sgn, List.range_succ] <;> grind
theorem ent_rng (ti : Nat → Nat) (hti : ∀ t, t < 3 → ti t < 8) {t u : Nat} (ht : t < 3) : -1000 < ent ti t u ∧ ent ti t u < 1000 := by
  have a := R3.out23 _ (hti t ht)
  have b := lane_le _ (hti t ht) ((u + 2 - t) % 3) (by omega)
  unfold ent
  split <;> omega
theorem mut_lt {ns : List Int} {σ : St} {nu la ro to tr si : Nat} {D : Nat → TD} {rw n : Nat → Nat} (h : Wld ns σ nu la ro to tr si D rw n) : ∀ i, Mut D i → i < σ.length := by
  rintro i ⟨t, ht, hi⟩
  obtain ⟨⟨lw, its, kvs, h1, h2, h3⟩, h4, h5⟩ := h.trio.t t ht
  rcases List.mem_cons.1 hi with rfl | hi
  · exact lt_of_get h5
  · exact h1.lt i ((h3 i).2 hi)
def sst (ns : List Int) : Nat := (nq ns 8 % 3).toNat
theorem sst_lt (ns : List Int) : sst ns < 3 := by unfold sst; omega
variable {ns : List Int} {nu la ro to tr si : Nat} {D : Nat → TD} {rw : Nat → Nat}
/-- start and the towns' lanes -/
theorem segE1 (s : Sta ns nu la ro to tr si D rw) {σ : St} {n : Nat → Nat} (hW : Wld ns σ nu la ro to tr si D rw n) {lo : List (Option V)} {P : Fl → List (Option V) → St → Prop} {b : SF}
    (hb : ∀ (σ' : St) (ou : Nat), Wld ns σ' nu la ro to tr si D rw n → σ'[3]? = some (.cell (some (.int (sst ns)))) → σ'[2]? = some (.cell (some (.ref ou))) → σ'[ou]? = some (.list ((List.range 3).map fun t => .int (outl (tbl ns t) : Nat))) → ¬ Mut D ou → WS (b ⟨lo, CL⟩ σ') P) :
    WS (consL (asgC 3 (binE .mod (subE T (celE 11) (intE 8)) (intE 3)))
 (consL (asgC 2 (compE T false (biE rangeV (consS (intE 3) nilS)) 1 0 [8] (tgL 0) none (biE (sumV T) (consS (subE T (celE 0) (locE 0)) nilS)))) b) ⟨lo, CL⟩ σ) P := by
  refine WS.setC (WR.binE (WR.nums (j := 8) rfl hW.pa.c11 hW.pa.hnu (by omega) (WR.intE (WR.mod (by decide) ⟨hW.pa.ce, ?_⟩))))
  have em : (nq ns 8).fmod 3 = ((sst ns : Nat) : Int) := by rw [Int.fmod_eq_emod_of_nonneg _ (by decide)]; unfold sst; omega
  rw [em]
  obtain ⟨o3, h3⟩ := hW.pa.ce 3 (by omega)
  have W1 := hW.setC s (c := 3) (by omega) (by omega) (by omega) (by omega) (by omega) (some (.int (sst ns)))
  have c3 := get_set (o' := .cell (some (.int (sst ns)))) h3
  generalize σ.set 3 (.cell (some (.int (sst ns)))) = σ1 at *
  have g4 := getElem?_len σ1 (.rng 0 3)
  have K4 := Keep.app (fun _ => False) σ1 [.rng 0 3]
  refine WS.setC ?_
  refine WR.compE (σ1 := σ1 ++ [.rng 0 3]) (a := .ref σ1.length) (kd := .rng 0) (len := 3) rfl (kd_rng g4 rfl rfl rfl) (.inl rfl)
    (fun j lo2 σ' ys => Keep (fun _ => False) (σ1 ++ [.rng 0 3]) σ' ∧ lo2.length = 1 ∧ ys = (List.range j).map fun t => .int (outl (tbl ns t) : Nat)) ?_ ?_ ?_ ?_
  · exact ⟨by simpa using Keep.refl _ _, rfl, rfl⟩
  · rintro j lo2 σ' ys ⟨K, -, -⟩
    exact kd_rng (K.getF g4) rfl rfl rfl
  · rintro j lo2 σ' ys hj ⟨K, hlo2, rfl⟩
    obtain ⟨x0, rfl⟩ : ∃ x0, lo2 = [x0] := List.length_eq_one_iff.1 hlo2
    refine ⟨by simp; omega, .int j, [some (.int j)], σ', ?_, rfl, ?_⟩
    · rw [it_rng (K.getF g4), Int.zero_add]
    refine WR.ok.2 ?_
    rw [if_pos rfl]
    refine WR.biE (WR.consS (WR.subE (WR.celE (k := 8) rfl (K.getF (K4.getF W1.pa.c8)) (WR.locE rfl (WR.getL (K.getF (K4.getF W1.pa.hla)) j rfl (pick3 (fun t => V.glob (lgl (tbl ns t))) hj) (WR.nilS ?_))))))
    refine WR.of_eq (sum_lane _ (tbl_lt ns j)) ⟨K, rfl, by rw [List.range_succ, List.map_append]; rfl⟩
  rintro lo2 σ2 ys ⟨K, -, rfl⟩
  have K6 := (K4.addF K).addF (Keep.app (fun _ => False) σ2 [.list ((List.range 3).map fun t => .int (outl (tbl ns t) : Nat))])
  have g6 := getElem?_len σ2 (.list ((List.range 3).map fun t => .int (outl (tbl ns t) : Nat)))
  have lm : σ1.length ≤ σ2.length := (K4.addF K).len
  generalize σ2.length = ou at *
  generalize σ2 ++ [.list ((List.range 3).map fun t => .int (outl (tbl ns t) : Nat))] = σ3 at *
  have W3 := W1.keepF s K6
  refine ⟨W3.pa.ce, ?_⟩
  obtain ⟨o2, h2⟩ := W3.pa.ce 2 (by omega)
  refine hb _ ou (W3.setC s (c := 2) (by omega) (by omega) (by omega) (by omega) (by omega) (some (.ref ou))) (get_set_ne (by omega) (K6.getF c3)) (get_set h2) (get_set_ne (Ne.symm (ne_of_get g6 h2 (by simp))) g6) ?_
  intro hm
  have := mut_lt W1 ou hm
  omega
/-- the net -/
theorem segE2 (s : Sta ns nu la ro to tr si D rw) {σ : St} {n : Nat → Nat} {ou : Nat} (hW : Wld ns σ nu la ro to tr si D rw n) (h3 : σ[3]? = some (.cell (some (.int (sst ns))))) (h2 : σ[2]? = some (.cell (some (.ref ou)))) (hou : σ[ou]? = some (.list ((List.range 3).map fun t => .int (outl (tbl ns t) : Nat)))) {lo : List (Option V)} {P : Fl → List (Option V) → St → Prop} {b : SF}
    (hb : ∀ (σ' : St) (ne : Nat), Keep (· = 1) σ σ' → Wld ns σ' nu la ro to tr si D rw n → σ'[1]? = some (.cell (some (.ref ne))) → RowsAt σ' ne (net (tbl ns)) → WS (b ⟨lo, CL⟩ σ') P) :
    WS (consL (asgC 1 (compE T false (biE rangeV (consS (intE 3) nilS)) 0 1 [2, 8] (tgC 0) none (compE T false (biE rangeV (consS (intE 3) nilS)) 1 0 [0, 1, 2] (tgL 0) none (iteE (truE (cmpE T (callN 30) .eq (celE 0) (locE 0))) (subE T (celE 1) (celE 0)) (negE (subE T (subE T (celE 2) (celE 0)) (binE .sub (binE .mod (binE .sub (locE 0) (celE 0)) (intE 3)) (intE 1)))))))) b ⟨lo, CL⟩ σ) P := by
  have g4 := getElem?_len σ (.rng 0 3)
  have K4 := Keep.app (fun _ => False) σ [.rng 0 3]
  have c4 := getElem?_len (σ ++ [.rng 0 3]) (.cell none)
  have K5 := K4.addF (Keep.app (fun _ => False) (σ ++ [.rng 0 3]) [.cell none])
  have g5 := get_app (τ := [.cell none]) g4
  have lc : σ.length < (σ ++ [O.rng 0 3]).length := by simp
  refine WS.setC ?_
  refine WR.compE (σ1 := σ ++ [.rng 0 3]) (a := .ref σ.length) (kd := .rng 0) (len := 3) rfl (kd_rng g4 rfl rfl rfl) (.inl rfl)
    (fun j lo2 σ' ys => Keep (· = (σ ++ [O.rng 0 3]).length) ((σ ++ [.rng 0 3]) ++ [.cell none]) σ' ∧ (∃ o, σ'[(σ ++ [O.rng 0 3]).length]? = some (.cell o)) ∧ All2 (RowAt σ') ys ((List.range j).map fun t => (List.range 3).map fun u => ent (tbl ns) t u)) ?_ ?_ ?_ ?_
  · exact ⟨Keep.refl _ _, ⟨_, c4⟩, trivial⟩
  · rintro j lo2 σ' ys ⟨K, -, -⟩
    exact kd_rng (K.getX g5 rfl) rfl rfl rfl
  · rintro j lo2 σ' ys hj ⟨K, ⟨o, ho⟩, hys⟩
    generalize (σ ++ [O.rng 0 3]).length = c at *
    generalize (σ ++ [O.rng 0 3]) ++ [.cell none] = σ5 at *
    have hcl : (List.range 1).map (c + ·) ++ [2, 8].map (fun j => ((CL : List Nat)[j]?).getD 0) = [c, 2, 8] := rfl
    refine ⟨by rw [hys.length, List.length_map, List.length_range]; omega, .int j, lo2, σ'.set c (.cell (some (.int j))), ?_, tgC_eq (k := c) rfl ho, ?_⟩
    · rw [it_rng (K.getX g5 rfl), Int.zero_add]
    refine WR.ok.2 ?_
    rw [if_pos rfl]
    have Kc : Keep (· = c) σ' (σ'.set c (.cell (some (.int j)))) := Keep.set (S := (· = c)) ho rfl rfl
    have K6 := K.then Kc
    have c6 := get_set (o' := .cell (some (.int j))) ho
    have hy6 := hys.imp fun a b (r : RowAt σ' a b) => (r.keep Kc (fun i _ e => by
      have e : i = c := e
      subst e
      obtain ⟨i', e', hi'⟩ := r
      have : i' = i := by rename_i h; rw [h] at e'; cases e'; rfl
      subst this
      rw [ho] at hi'; cases hi'))
    generalize σ'.set c (.cell (some (.int j))) = σ6 at *
    have old : ∀ i o, σ[i]? = some o → σ6[i]? = some o := fun i o e => K6.get (K5.getF e) (by show ¬ i = c; have := lt_of_get e; omega)
    rw [hcl]
    have g7 := getElem?_len σ6 (.rng 0 3)
    have K7 := Keep.app (fun _ => False) σ6 [.rng 0 3]
    refine WR.compE (σ1 := σ6 ++ [.rng 0 3]) (a := .ref σ6.length) (kd := .rng 0) (len := 3) rfl (kd_rng g7 rfl rfl rfl) (.inl rfl)
      (fun k lo3 σ'' zs => Keep (fun _ => False) (σ6 ++ [.rng 0 3]) σ'' ∧ lo3.length = 1 ∧ zs = ((List.range k).map fun u => ent (tbl ns) j u).map .int) ?_ ?_ ?_ ?_
    · exact ⟨by simpa using Keep.refl _ _, rfl, rfl⟩
    · rintro k lo3 σ'' zs ⟨K', -, -⟩
      exact kd_rng (K'.getF g7) rfl rfl rfl
    · rintro k lo3 σ'' zs hk ⟨K', hlo3, rfl⟩
      obtain ⟨x0, rfl⟩ : ∃ x0, lo3 = [x0] := List.length_eq_one_iff.1 hlo3
      refine ⟨by simp; omega, .int k, [some (.int k)], σ'', ?_, rfl, ?_⟩
      · rw [it_rng (K'.getF g7), Int.zero_add]
      refine WR.ok.2 ?_
      rw [if_pos rfl]
      have tc : σ''[c]? = some (.cell (some (.int j))) := K'.getF (K7.getF c6)
      have oldd : ∀ i o, σ[i]? = some o → σ''[i]? = some o := fun i o e => K'.getF (K7.getF (old i o e))
      have fin : ∀ x : Int, x = ent (tbl ns) j k → Keep (fun _ => False) (σ6 ++ [.rng 0 3]) σ'' ∧ [some (V.int k)].length = 1 ∧ ((List.range k).map fun u => ent (tbl ns) j u).map V.int ++ [.int x] = ((List.range (k + 1)).map fun u => ent (tbl ns) j u).map .int := fun x hx => ⟨K', rfl, by rw [hx, List.range_succ, List.map_append, List.map_append]; rfl⟩
      by_cases e : j = k
      · refine WR.iteT (WR.truE (WR.cmpE (WR.celE (k := c) rfl tc (WR.locE rfl ?_))))
        have e1 : ((j : Int) == (k : Int)) = true := by rw [beq_iff_eq]; omega
        simp only [cmpV, WR.ok, truV, e1, true_and]
        refine WR.subE (WR.celE (k := 2) rfl (oldd _ _ h2) (WR.celE (k := c) rfl tc (WR.getL (oldd _ _ hou) j rfl ?_ (fin (outl (tbl ns j) : Nat) ?_))))
        · rw [List.getElem?_map, List.getElem?_range hj]; rfl
        · unfold ent; rw [if_pos e]
      · refine WR.iteF (WR.truE (WR.cmpE (WR.celE (k := c) rfl tc (WR.locE rfl ?_))))
        have e1 : ((j : Int) == (k : Int)) = false := by rw [beq_eq_false_iff_ne]; omega
        simp only [cmpV, WR.ok, truV, e1, true_and]
        refine WR.negE (WR.subE (WR.subE (WR.celE (k := 8) rfl (oldd _ _ hW.pa.c8) (WR.celE (k := c) rfl tc (WR.getL (oldd _ _ hW.pa.hla) j rfl (pick3 (fun t => V.glob (lgl (tbl ns t))) hj) ?_)))))
        refine WR.binE (WR.binE (WR.binE (WR.locE rfl (WR.celE (k := c) rfl tc (WR.sub (WR.intE (WR.mod (by decide) (WR.intE (WR.sub ?_)))))))))
        refine WR.getG (T_lane _ (tbl_lt ns j)) ((k + 2 - j) % 3) ?_ ?_ (WR.neg (fin (-((lane (tbl ns j) ((k + 2 - j) % 3) : Nat) : Int)) ?_))
        · rw [Int.fmod_eq_emod_of_nonneg _ (by decide)]; omega
        · rw [List.getElem?_map, List.getElem?_range (by omega)]; rfl
        · unfold ent; rw [if_neg e]
    · rintro lo3 σ'' zs ⟨K', -, rfl⟩
      have K8 := (K7.addF K').addF (Keep.app (fun _ => False) σ'' [.list (((List.range 3).map fun u => ent (tbl ns) j u).map .int)])
      refine ⟨K6.addF K8, ⟨_, K8.getF c6⟩, ?_⟩
      rw [map_succ (fun t => (List.range 3).map fun u => ent (tbl ns) t u) j]
      exact All2.append (hy6.imp fun a b r => r.keep K8 (fun _ _ h => h)) (show All2 _ [_] [_] from ⟨⟨_, rfl, getElem?_len _ _⟩, trivial⟩)
  rintro lo2 σ2 ys ⟨K, ⟨o, ho⟩, hys⟩
  generalize (σ ++ [O.rng 0 3]).length = c at *
  generalize (σ ++ [O.rng 0 3]) ++ [.cell none] = σ5 at *
  have KF : Keep (fun _ => False) σ σ2 := ((K5.weak (S' := (· = c)) (fun _ h => h.elim)).then K).of_new fun i hi e => by have : i = c := e; omega
  have K9 := Keep.app (fun _ => False) σ2 [.list ys]
  have g9 := getElem?_len σ2 (.list ys)
  have hy9 := hys.imp fun a b r => r.keep K9 (fun _ _ h => h)
  have KG := KF.addF K9
  generalize σ2.length = ne at *
  generalize σ2 ++ [.list ys] = σ3 at *
  have W3 := hW.keepF s KG
  refine ⟨W3.pa.ce, ?_⟩
  obtain ⟨o1, h1⟩ := W3.pa.ce 1 (by omega)
  have K1 : Keep (· = 1) σ3 (σ3.set 1 (.cell (some (.ref ne)))) := Keep.set (S := (· = 1)) h1 rfl rfl
  refine hb _ ne ((KG.weak fun _ h => h.elim).then K1) (W3.setC s (c := 1) (by omega) (by omega) (by omega) (by omega) (by omega) (some (.ref ne))) (get_set h1) ⟨ys, K1.get g9 (ne_of_get g9 h1 (by simp)), ?_⟩
  rw [net_eq]
  exact hy9.imp fun a b r => r.keep K1 (fun i _ e => by
      have e : i = 1 := e
      subst e
      obtain ⟨i', e', hi'⟩ := r
      have : i' = 1 := by rename_i h; rw [h] at e'; cases e'; rfl
      subst this
      rw [h1] at hi'; cases hi')
end L3
end Mine

end
noncomputable section
open PySem PySem.W PyProof.Rows
set_option linter.unusedVariables false
set_option linter.unusedSimpArgs false
set_option autoImplicit false
set_option Elab.async false
set_option maxRecDepth 100000
set_option maxHeartbeats 1000000
namespace Mine
namespace L3
open R3 (lane outl U Law Acy upd whl cof com net)
structure Bd (nu la ro to tr si : Nat) (D : Nat → TD) (rw : Nat → Nat) (B : Nat) : Prop where
  nu : nu < B
  la : la < B
  ro : ro < B
  to : to < B
  tr : tr < B
  si : si < B
  rw : ∀ t, t < 3 → rw t < B
  s : ∀ t, t < 3 → (D t).s < B
  m : ∀ i, Mut D i → i < B
  c : 12 ≤ B
variable {ns : List Int} {nu la ro to tr si : Nat} {D : Nat → TD} {rw n : Nat → Nat}
theorem Wld.low {σ : St} (h : Wld ns σ nu la ro to tr si D rw n) : Bd nu la ro to tr si D rw σ.length :=
  ⟨lt_of_get h.pa.hnu, lt_of_get h.pa.hla, lt_of_get h.hro, lt_of_get h.trio.to, lt_of_get h.trio.tr, lt_of_get h.trio.si, fun t ht => lt_of_get (h.rws t ht), fun t ht => lt_of_get (h.trio.t t ht).sg, mut_lt h, lt_of_get h.pa.c11⟩
theorem Bd.mono {B B' : Nat} (h : Bd nu la ro to tr si D rw B) (hb : B ≤ B') : Bd nu la ro to tr si D rw B' :=
  ⟨Nat.lt_of_lt_of_le h.nu hb, Nat.lt_of_lt_of_le h.la hb, Nat.lt_of_lt_of_le h.ro hb, Nat.lt_of_lt_of_le h.to hb, Nat.lt_of_lt_of_le h.tr hb, Nat.lt_of_lt_of_le h.si hb, fun t ht => Nat.lt_of_lt_of_le (h.rw t ht) hb, fun t ht => Nat.lt_of_lt_of_le (h.s t ht) hb, fun i hi => Nat.lt_of_lt_of_le (h.m i hi) hb, Nat.le_trans h.c hb⟩
abbrev S9 (B : Nat) : Nat → Prop := fun i => i = 9 ∨ B ≤ i
theorem Wld.keepB {σ σ' : St} {B : Nat} (h : Wld ns σ nu la ro to tr si D rw n) (s : Sta ns nu la ro to tr si D rw) (hB : Bd nu la ro to tr si D rw B) (K : Keep (S9 B) σ σ') (h9 : ∃ o, σ'[9]? = some (.cell o)) : Wld ns σ' nu la ro to tr si D rw n := by
  obtain ⟨o9, ho⟩ := h.pa.ce 9 (by omega)
  have nl : ∀ {i : Nat} {vs : List V}, σ[i]? = some (.list vs) → i ≠ 9 := fun e => ne_of_get e ho (by simp)
  obtain ⟨⟨p1, p2, p3, p4, p5, p6, p7⟩, t, h5, h6⟩ := h
  have hc := hB.c
  have g : ∀ i o, σ[i]? = some o → i ≠ 9 → i < B → σ'[i]? = some o := fun i o e h1 h2 => K.get e (by show ¬ (i = 9 ∨ B ≤ i); omega)
  refine ⟨⟨fun j hj => ?_, g _ _ p2 (by omega) (by omega), g _ _ p3 (nl p3) hB.nu, g _ _ p4 (by omega) (by omega), g _ _ p5 (nl p5) hB.la, g _ _ p6 (by omega) (by omega), g _ _ p7 (by omega) (by omega)⟩, t.keep s.sp K ?_, g _ _ h5 (nl h5) hB.ro, fun t ht => g _ _ (h6 t ht) (nl (h6 t ht)) (hB.rw t ht)⟩
  · by_cases e : j = 9
    · subst e; exact h9
    · obtain ⟨o, ho⟩ := p1 j hj
      exact ⟨o, g _ _ ho e (by omega)⟩
  · intro i hi
    refine ⟨?_, ?_, ?_, fun u hu hx => ?_⟩
    · rintro rfl; have := nl t.tr; have := hB.tr; omega
    · rintro rfl; have := nl t.si; have := hB.si; omega
    · rintro rfl; have := nl t.to; have := hB.to; omega
    · rcases List.mem_cons.1 hx with hx | hx
      · have := hB.s u hu
        have := ne_of_get (t.t u hu).sg ho (by simp)
        omega
      · have := hB.m i ⟨u, hu, hx⟩
        rcases hi with rfl | hi
        · exact s.cm 9 (by omega) ⟨u, hu, hx⟩
        · omega
theorem RowsAt.keep9 {σ σ' : St} {B k : Nat} {rows : List (List Int)} (h : RowsAt σ k rows) {o : Option V} (ho : σ[9]? = some (.cell o)) (hB : σ.length ≤ B) (K : Keep (S9 B) σ σ') : RowsAt σ' k rows := by
  obtain ⟨vs, h1, h2⟩ := h
  have ne : ∀ {i : Nat} {vs : List V}, σ[i]? = some (.list vs) → ¬ S9 B i := fun {i} {vs} e h => by
    have h := h
    have := ne_of_get e ho (by simp)
    have := lt_of_get e
    have : i = 9 ∨ B ≤ i := h
    omega
  refine ⟨vs, K.get h1 (ne h1), h2.imp fun a b r => ?_⟩
  obtain ⟨j, e, hj⟩ := r
  exact ⟨j, e, K.get hj (ne hj)⟩
def gj (ti : Nat → Nat) (s : Nat) : Nat → Nat
  | 0 => (whl ti).toNat
  | j + 1 => Nat.gcd (gj ti s j) (cof ti s j).toNat
abbrev cofB (call : CallF) : SF := (consL (asgK T 14 false (biE rangeV (consS (intE 3) nilS)) 1 0 [1, 3, 9] (tgL 0) (some (truE (cmpE T call .ne (locE 0) (celE 2)))) (binE .add (sliceE T (subE T (celE 0) (locE 0)) none (some (celE 1))) (sliceE T (subE T (celE 0) (locE 0)) (some (binE .add (celE 1) (intE 1))) none)))
 (consL (exprS (lmE appV (locE 12) (consS (binE .mul (callE call 18 (consS (locE 14) nilS)) (iteE (truE (cmpE T call .eq (binE .mod (binE .add (celE 9) (celE 3)) (intE 2)) (intE 0))) (intE 1) (negE (intE 1)))) nilS)))
 (consL (asgL 13 (callE call 19 (consS (locE 13) (consS (subE T (locE 12) (celE 9)) nilS))))
 nilL)))
theorem minor_take (ti : Nat → Nat) (s t k : Nat) : (((List.range (k + 1)).filter fun u => u != t).map fun u => ((List.range 3).map fun v => ent ti u v).take s ++ ((List.range 3).map fun v => ent ti u v).drop (s + 1)) =
    (((List.range k).filter fun u => u != t).map fun u => ((List.range 3).map fun v => ent ti u v).take s ++ ((List.range 3).map fun v => ent ti u v).drop (s + 1)) ++ if k = t then [] else [((List.range 3).map fun v => ent ti k v).take s ++ ((List.range 3).map fun v => ent ti k v).drop (s + 1)] := by
  rw [List.range_succ (n := k), List.filter_append, List.map_append]
  congr 1
  by_cases e : k = t
  · simp [e]
  · simp [e]
theorem cof_step (s : Sta ns nu la ro to tr si D rw) {σ : St} {B ne rd j g : Nat} {vs : List V} (hW : Wld ns σ nu la ro to tr si D rw n) (hB : Bd nu la ro to tr si D rw B) (hBr : B ≤ rd) (h3 : σ[3]? = some (.cell (some (.int (sst ns))))) (h1 : σ[1]? = some (.cell (some (.ref ne)))) (h9 : σ[9]? = some (.cell (some (.int j)))) (hj : j < 3)
    (hne : RowsAt σ ne (net (tbl ns))) (hrd : σ[rd]? = some (.list vs)) (hvs : vs.length = j) {x0 x1 x2 x3 y4 y5 y6 y7 y8 y9 y10 y11 y14 : Option V} {L : List (Option V)} :
    WS (cofB (callN 30) ⟨x0 :: x1 :: x2 :: x3 :: y4 :: y5 :: y6 :: y7 :: y8 :: y9 :: y10 :: y11 :: some (.ref rd) :: some (.int g) :: y14 :: L, CL⟩ σ) fun fl lo' σ' => fl = .next ∧ (∃ y14, lo' = x0 :: x1 :: x2 :: x3 :: y4 :: y5 :: y6 :: y7 :: y8 :: y9 :: y10 :: y11 :: some (.ref rd) :: some (.int (Nat.gcd g (cof (tbl ns) (sst ns) j).toNat : Nat)) :: y14 :: L) ∧ Keep (· = rd) σ σ' ∧ σ'[rd]? = some (.list (vs ++ [.int (cof (tbl ns) (sst ns) j)])) := by
  have hs := sst_lt ns
  obtain ⟨nv, hn1, hn2⟩ := hne
  have nvl : nv.length = 3 := hn2.length
  have g4 := getElem?_len σ (.rng 0 3)
  have K4 := Keep.app (fun _ => False) σ [.rng 0 3]
  have hcl : (List.range 0).map (σ.length + ·) ++ [1, 3, 9].map (fun j => ((CL : List Nat)[j]?).getD 0) = [1, 3, 9] := rfl
  refine WS.asgK (σ1 := σ ++ [.rng 0 3]) (a := .ref σ.length) (kd := .rng 0) (len := 3) rfl (kd_rng g4 rfl rfl rfl) (.inl rfl)
    (fun k lo2 σ' ys => Keep (fun _ => False) (σ ++ [.rng 0 3]) σ' ∧ lo2.length = 1 ∧ All2 (RowAt σ') ys (((List.range k).filter fun u => u != j).map fun u => ((List.range 3).map fun v => ent (tbl ns) u v).take (sst ns) ++ ((List.range 3).map fun v => ent (tbl ns) u v).drop (sst ns + 1))) ?_ ?_ ?_ ?_
  · exact ⟨by simpa using Keep.refl _ _, rfl, trivial⟩
  · rintro k lo2 σ' ys ⟨K, -, -⟩
    exact kd_rng (K.getF g4) rfl rfl rfl
  · rintro k lo2 σ' ys hk ⟨K, hlo2, hys⟩
    obtain ⟨z0, rfl⟩ : ∃ z0, lo2 = [z0] := List.length_eq_one_iff.1 hlo2
    have old : ∀ i o, σ[i]? = some o → σ'[i]? = some o := fun i o e => K.getF (K4.getF e)
    refine ⟨?_, .int k, [some (.int k)], σ', ?_, rfl, ?_⟩
    · rw [hys.length, List.length_map]
      have := List.length_filter_le (fun u => u != j) (List.range k)
      rw [List.length_range] at this
      omega
    · rw [it_rng (K.getF g4), Int.zero_add]
    show WR (testE (some _) ⟨_, [1, 3, 9]⟩ _) _
    refine WR.truE (WR.cmpE (WR.locE rfl (WR.celE (k := 9) rfl (old _ _ h9) ?_)))
    by_cases e : k = j
    · have e1 : ((k : Int) != (j : Int)) = false := by simp [e]
      simp only [cmpV, WR.ok, truV, e1]
      rw [if_neg (by simp)]
      refine ⟨K, rfl, ?_⟩
      rw [minor_take, if_pos e, List.append_nil]
      exact hys
    · have e1 : ((k : Int) != (j : Int)) = true := by simp only [bne_iff_ne, ne_eq]; omega
      simp only [cmpV, WR.ok, truV, e1, if_true]
      have hkn : k < nv.length := by omega
      obtain ⟨row, hrow, jr, hjr, hjl⟩ := hn2.get (List.getElem?_eq_getElem hkn)
      have hrow2 : row = (List.range 3).map fun v => ent (tbl ns) k v := by
        rw [net_eq, List.getElem?_map, List.getElem?_range hk] at hrow
        cases hrow; rfl
      subst hrow2
      have nk : nv[k]? = some (.ref jr) := by rw [List.getElem?_eq_getElem hkn, hjr]
      have cu1 : cutV (((List.range 3).map fun v => ent (tbl ns) k v).map V.int) none (some (sst ns : Int)) = (((List.range 3).map fun v => ent (tbl ns) k v).take (sst ns)).map V.int := by
        unfold cutV kms_lo kms_hi
        dsimp only
        rw [if_neg (by omega)]
        simp
      have cu2 : cutV (((List.range 3).map fun v => ent (tbl ns) k v).map V.int) (some ((sst ns : Int) + 1)) none = (((List.range 3).map fun v => ent (tbl ns) k v).drop (sst ns + 1)).map V.int := by
        unfold cutV kms_lo kms_hi
        dsimp only
        rw [if_neg (by omega)]
        simp only [List.length_map, List.length_range, show ((sst ns : Int) + 1).toNat = sst ns + 1 by omega, show min (sst ns + 1) 3 = sst ns + 1 by omega]
        rw [List.take_of_length_le (by simp), List.map_drop]
      generalize hrw : ((List.range 3).map fun v => ent (tbl ns) k v) = row at *
      refine WR.binE (WR.sliceE (WR.subE (WR.celE (k := 1) rfl (old _ _ h1) (WR.locE rfl (WR.getL (old _ _ hn1) k rfl nk (WR.partN ?_))))))
      refine WR.celE (k := 3) rfl (old _ _ h3) (WR.slice (old _ _ hjl) rfl rfl ?_)
      rw [cu1]
      have K7 := Keep.app (fun _ => False) σ' [.list ((row.take (sst ns)).map .int)]
      have l7 := getElem?_len σ' (.list ((row.take (sst ns)).map .int))
      have y7 := hys.imp fun a b (r : RowAt σ' a b) => r.keep K7 (fun _ _ h => h)
      have old7 : ∀ i o, σ[i]? = some o → (σ' ++ [.list ((row.take (sst ns)).map .int)])[i]? = some o := fun i o e => K7.getF (old i o e)
      generalize σ'.length = p7 at *
      generalize σ' ++ [.list ((row.take (sst ns)).map .int)] = σ7 at *
      refine WR.sliceE (WR.subE (WR.celE (k := 1) rfl (old7 _ _ h1) (WR.locE rfl (WR.getL (old7 _ _ hn1) k rfl nk ?_))))
      show WR (partE (some _) _ _) _
      refine WR.binE (WR.celE (k := 3) rfl (old7 _ _ h3) (WR.intE (WR.add (WR.partN (WR.slice (old7 _ _ hjl) rfl rfl ?_)))))
      rw [cu2]
      have l8 := get_app (τ := [.list ((row.drop (sst ns + 1)).map .int)]) l7
      have l8' := getElem?_len σ7 (.list ((row.drop (sst ns + 1)).map .int))
      have K8 := Keep.app (fun _ => False) σ7 [.list ((row.drop (sst ns + 1)).map .int)]
      have y8 := y7.imp fun a b (r : RowAt σ7 a b) => r.keep K8 (fun _ _ h => h)
      generalize σ7.length = p8 at *
      generalize σ7 ++ [.list ((row.drop (sst ns + 1)).map .int)] = σ8 at *
      have rl : row.length = 3 := by rw [← hrw]; simp
      refine WR.addL l8 l8' (by simp only [List.length_map, List.length_take, List.length_drop]; omega) ?_
      rw [← List.map_append]
      have K9 := Keep.app (fun _ => False) σ8 [.list ((row.take (sst ns) ++ row.drop (sst ns + 1)).map .int)]
      refine ⟨((K.addF K7).addF K8).addF K9, rfl, ?_⟩
      rw [minor_take, if_neg e, hrw]
      exact All2.append (y8.imp fun a b r => r.keep K9 (fun _ _ h => h)) (show All2 _ [_] [_] from ⟨⟨_, rfl, getElem?_len _ _⟩, trivial⟩)
  rintro lo2 σ2 ys ⟨K, -, hys⟩
  have hys : All2 (RowAt σ2) ys (minor (tbl ns) (sst ns) j) := hys
  have K6 := (K4.addF K).addF (Keep.app (fun _ => False) σ2 [.list ys])
  have g6 := getElem?_len σ2 (.list ys)
  have hy6 := hys.imp fun a b (r : RowAt σ2 a b) => r.keep (Keep.app (fun _ => False) σ2 [.list ys]) (fun _ _ h => h)
  generalize σ2.length = rl at *
  generalize σ2 ++ [.list ys] = σ3 at *
  simp only [setLo, List.set_cons_succ, List.set_cons_zero]
  -- the minor's determinant
  have r3 := K6.getF hrd
  refine WS.exprS (WR.lmE (WR.locE rfl ⟨by simp only [listAtV, r3], WR.consS (WR.binE (WR.callE (WR.consS (WR.locE rfl (WR.nilS ?_)))))⟩))
  have ml : (minor (tbl ns) (sst ns) j).length = 2 := by
    unfold minor
    rw [List.length_map]
    have : j = 0 ∨ j = 1 ∨ j = 2 := by omega
    rcases this with rfl | rfl | rfl <;> rfl
  have mr : ∀ row ∈ minor (tbl ns) (sst ns) j, row.length = 2 ∧ ∀ x ∈ row, -1000 < x ∧ x < 1000 := by
    intro row hrow
    obtain ⟨u, hu, rfl⟩ := List.mem_map.1 hrow
    rw [List.mem_filter, List.mem_range] at hu
    refine ⟨?_, fun x hx => ?_⟩
    · simp only [List.length_append, List.length_take, List.length_drop, List.length_map, List.length_range]; omega
    · have : x ∈ (List.range 3).map fun v => ent (tbl ns) u v := by
        rcases List.mem_append.1 hx with hx | hx
        · exact List.mem_of_mem_take hx
        · exact List.mem_of_mem_drop hx
      obtain ⟨v, hv, rfl⟩ := List.mem_map.1 this
      exact ent_rng _ (fun t _ => tbl_lt ns t) hu.1
  refine (det30' ml mr ⟨ys, g6, hy6⟩).mono ?_
  rintro v σ4 ⟨rfl, K7⟩
  have K8 := K6.addF K7
  have sgnE : WR (iteE (truE (cmpE T (callN 30) .eq (binE .mod (binE .add (celE 9) (celE 3)) (intE 2)) (intE 0))) (intE 1) (negE (intE 1)) ⟨x0 :: x1 :: x2 :: x3 :: y4 :: y5 :: y6 :: y7 :: y8 :: y9 :: y10 :: y11 :: some (.ref rd) :: some (.int g) :: some (.ref rl) :: L, CL⟩ σ4) fun v σ' => v = .int (if (j + sst ns) % 2 = 0 then 1 else -1) ∧ σ' = σ4 := by
    have em : ((j : Int) + (sst ns : Int)).fmod 2 = (((j + sst ns) % 2 : Nat) : Int) := by rw [Int.fmod_eq_emod_of_nonneg _ (by decide)]; omega
    have cd : ∀ Q : V → St → Prop, Q (.int (((j + sst ns) % 2 : Nat) : Int)) σ4 → WR (binE .mod (binE .add (celE 9) (celE 3)) (intE 2) ⟨x0 :: x1 :: x2 :: x3 :: y4 :: y5 :: y6 :: y7 :: y8 :: y9 :: y10 :: y11 :: some (.ref rd) :: some (.int g) :: some (.ref rl) :: L, CL⟩ σ4) Q := fun Q q =>
      WR.binE (WR.binE (WR.celE (k := 9) rfl (K8.getF h9) (WR.celE (k := 3) rfl (K8.getF h3) (WR.add (WR.intE (WR.mod (by decide) (em ▸ q)))))))
    by_cases e : (j + sst ns) % 2 = 0
    · refine WR.iteT (WR.truE (WR.cmpE (cd _ (WR.intE ?_))))
      have e1 : ((((j + sst ns) % 2 : Nat) : Int) == 0) = true := by rw [beq_iff_eq]; omega
      simp only [cmpV, WR.ok, truV, e1, true_and]
      exact WR.intE ⟨by rw [if_pos e], rfl⟩
    · refine WR.iteF (WR.truE (WR.cmpE (cd _ (WR.intE ?_))))
      have e1 : ((((j + sst ns) % 2 : Nat) : Int) == 0) = false := by rw [beq_eq_false_iff_ne]; omega
      simp only [cmpV, WR.ok, truV, e1, true_and]
      exact WR.negE (WR.intE (WR.neg ⟨by rw [if_neg e], rfl⟩))
  refine sgnE.mono ?_
  rintro _ _ ⟨rfl, rfl⟩
  refine WR.mul (by split <;> simp [small]) ?_
  rw [det_cof _ hs hj]
  have r4 := K8.getF hrd
  refine WR.nilS (WR.app r4 (by omega) ?_)
  have KR : Keep (· = rd) _ _ := Keep.set (S := (· = rd)) (o' := .list (vs ++ [.int (cof (tbl ns) (sst ns) j)])) r4 rfl rfl
  have r5 := get_set (o' := .list (vs ++ [.int (cof (tbl ns) (sst ns) j)])) r4
  have K9 := (K8.weak (S' := (· = rd)) (fun _ h => h.elim)).then KR
  have hc := hB.c
  have c9 := K9.get h9 (by show ¬ 9 = rd; omega)
  generalize List.set _ rd (O.list (vs ++ [.int (cof (tbl ns) (sst ns) j)])) = σ5 at *
  have hf := (R3.fact (ti := tbl ns) (fun t _ => tbl_lt ns t) hs).2 j hj
  obtain ⟨c, hcc⟩ : ∃ c : Nat, cof (tbl ns) (sst ns) j = (c : Int) := ⟨_, (Int.toNat_of_nonneg hf.1).symm⟩
  rw [hcc] at hf r5 ⊢
  rw [Int.toNat_natCast]
  have hjv : (vs ++ [V.int c])[j]? = some (.int c) := by rw [List.getElem?_append_right (by omega), hvs, Nat.sub_self]; rfl
  refine WS.asgL (WR.callE (WR.consS (WR.locE rfl (WR.consS (WR.subE (WR.locE rfl (WR.of_eq (cel9 c9) (WR.getL r5 j rfl hjv (WR.nilS ?_)))))))))
  refine (common30 g c (by omega)).mono ?_
  rintro v σ6 ⟨rfl, K10⟩
  exact WS.nil.2 ⟨rfl, ⟨_, rfl⟩, K9.addF K10, K10.getF r5⟩
theorem net_rng (ns : List Int) : ∀ row ∈ net (tbl ns), row.length = 3 ∧ ∀ x ∈ row, -1000 < x ∧ x < 1000 := by
  rw [net_eq]
  intro row hrow
  obtain ⟨u, hu, rfl⟩ := List.mem_map.1 hrow
  refine ⟨by simp, fun x hx => ?_⟩
  obtain ⟨v, hv, rfl⟩ := List.mem_map.1 hx
  exact ent_rng _ (fun t _ => tbl_lt ns t) (List.mem_range.1 hu)
/-- the determinant, the cofactors and what they have in common -/
theorem segE3 (s : Sta ns nu la ro to tr si D rw) {σ : St} {ne : Nat} (hW : Wld ns σ nu la ro to tr si D rw n) (h3 : σ[3]? = some (.cell (some (.int (sst ns))))) (h1 : σ[1]? = some (.cell (some (.ref ne)))) (hne : RowsAt σ ne (net (tbl ns)))
    {x0 x1 x2 x3 y4 y5 y6 y7 y8 y9 y10 y11 y12 y13 y14 : Option V} {L : List (Option V)} {P : Fl → List (Option V) → St → Prop} {b : SF}
    (hb : ∀ (σ' : St) (rd : Nat) (y14 : Option V), Keep (S9 σ.length) σ σ' → Wld ns σ' nu la ro to tr si D rw n → σ.length ≤ rd → σ'[rd]? = some (.list ((List.range 3).map fun t => .int (cof (tbl ns) (sst ns) t))) → WS (b ⟨x0 :: x1 :: x2 :: x3 :: y4 :: y5 :: y6 :: y7 :: y8 :: y9 :: y10 :: some (.int (whl (tbl ns))) :: some (.ref rd) :: some (.int (com (tbl ns) (sst ns) : Nat)) :: y14 :: L, CL⟩ σ') P) :
    WS (consL (asgSw [11, 12] (tupE (consS (callE (callN 30) 18 (consS (celE 1) nilS)) (consS (listE nilS) nilS))))
 (consL (asgL 13 (locE 11))
 (consL (forS T false (biE rangeV (consS (intE 3) nilS)) (tgC 9) (cofB (callN 30))) b)) ⟨x0 :: x1 :: x2 :: x3 :: y4 :: y5 :: y6 :: y7 :: y8 :: y9 :: y10 :: y11 :: y12 :: y13 :: y14 :: L, CL⟩ σ) P := by
  have hs := sst_lt ns
  have hfw := (R3.fact (ti := tbl ns) (fun t _ => tbl_lt ns t) hs).1
  obtain ⟨v, σ1, e1, rfl, K1⟩ := det30 (σ := σ) (k := ne) rfl (net_rng ns) hne
  rw [det_whl] at e1
  have et : tupE (consS (callE (callN 30) 18 (consS (celE 1) nilS)) (consS (listE nilS) nilS)) ⟨x0 :: x1 :: x2 :: x3 :: y4 :: y5 :: y6 :: y7 :: y8 :: y9 :: y10 :: y11 :: y12 :: y13 :: y14 :: L, CL⟩ σ = some (.ok (.ref (σ1.length + 1)) (σ1 ++ [.list [], .tup [.int (whl (tbl ns)), .ref σ1.length]])) := by
    have ec : celE 1 ⟨x0 :: x1 :: x2 :: x3 :: y4 :: y5 :: y6 :: y7 :: y8 :: y9 :: y10 :: y11 :: y12 :: y13 :: y14 :: L, CL⟩ σ = some (.ok (.ref ne) σ) := by
      simp only [celE, CL, List.getElem?_cons_succ, List.getElem?_cons_zero, Option.bind_some, h1]
    simp [tupE, consS, nilS, callE, ec, listE, bindR, e1]
  have g1 : (σ1 ++ [O.list [], .tup [.int (whl (tbl ns)), .ref σ1.length]])[σ1.length]? = some (.list []) := by simp
  have g2 : (σ1 ++ [O.list [], .tup [.int (whl (tbl ns)), .ref σ1.length]])[σ1.length + 1]? = some (.tup [.int (whl (tbl ns)), .ref σ1.length]) := by simp
  have K2 := K1.addF (Keep.app (fun _ => False) σ1 [.list [], .tup [.int (whl (tbl ns)), .ref σ1.length]])
  have lr : σ.length ≤ σ1.length := K1.len
  generalize hrdd : σ1.length = rd at *
  generalize (σ1 ++ [O.list [], .tup [.int (whl (tbl ns)), .ref rd]]) = σ2 at *
  refine WS.cons (R := fun lo σ' => lo = x0 :: x1 :: x2 :: x3 :: y4 :: y5 :: y6 :: y7 :: y8 :: y9 :: y10 :: some (.int (whl (tbl ns))) :: some (.ref rd) :: y13 :: y14 :: L ∧ σ2 = σ') ?_ ?_
  · unfold asgSw
    rw [et]
    simp only [bindE, g2]
    exact ⟨_, _, _, rfl, rfl, rfl, rfl⟩
  rintro lo _ ⟨rfl, rfl⟩
  refine WS.asgL (WR.locE rfl ?_)
  simp only [setLo, List.set_cons_succ, List.set_cons_zero]
  have g4 := getElem?_len σ2 (.rng 0 3)
  have K4 := K2.addF (Keep.app (fun _ => False) σ2 [.rng 0 3])
  refine WS.consB ?_
  have hlow := hW.low
  obtain ⟨o9, ho9⟩ := hW.pa.ce 9 (by omega)
  refine WS.forS (a := .ref σ2.length) (σ1 := σ2 ++ [.rng 0 3]) (kd := .rng 0) (len := 3) rfl (kd_rng g4 rfl rfl rfl) (.inl rfl)
    (fun j lo σ' => σ'[σ2.length]? = some (.rng 0 3) ∧ (∃ y14, lo = x0 :: x1 :: x2 :: x3 :: y4 :: y5 :: y6 :: y7 :: y8 :: y9 :: y10 :: some (.int (whl (tbl ns))) :: some (.ref rd) :: some (.int (gj (tbl ns) (sst ns) j : Nat)) :: y14 :: L) ∧ Keep (S9 σ.length) σ σ' ∧ (∃ o, σ'[9]? = some (.cell o)) ∧ σ'[rd]? = some (.list ((List.range j).map fun t => .int (cof (tbl ns) (sst ns) t)))) ?_ ?_ ?_ ?_
  · refine ⟨g4, ⟨y14, ?_⟩, K4.weak (fun _ h => h.elim), ⟨_, K4.getF ho9⟩, get_app g1⟩
    have : whl (tbl ns) = ((gj (tbl ns) (sst ns) 0 : Nat) : Int) := by show _ = ((whl (tbl ns)).toNat : Int); omega
    rw [← this]
  · rintro j lo σ' ⟨g, -⟩
    exact kd_rng g rfl rfl rfl
  · rintro j lo σ' hj ⟨g, ⟨z, rfl⟩, K, ⟨o, ho⟩, hr⟩
    refine ⟨.int j, _, σ'.set 9 (.cell (some (.int j))), ?_, tgC_eq (k := 9) rfl ho, ?_⟩
    · rw [it_rng g, Int.zero_add]
    have K9' : Keep (· = 9) σ' (σ'.set 9 (.cell (some (.int j)))) := Keep.set (S := (· = 9)) ho rfl rfl
    have K9 : Keep (S9 σ.length) σ (σ'.set 9 (.cell (some (.int j)))) := K.then (K9'.weak fun i hi => .inl hi)
    have c9 := get_set (o' := .cell (some (.int j))) ho
    have g9 := K9'.getX g rfl
    have r9 := K9'.get hr (ne_of_get hr ho (by simp))
    generalize σ'.set 9 (.cell (some (.int j))) = σ3 at *
    have hc := hlow.c
    have W3 := hW.keepB s hlow K9 ⟨_, c9⟩
    have ng : ∀ i, i < σ.length → i ≠ 9 → ¬ S9 σ.length i := fun i h1 h2 h3 => by
      have h3 : i = 9 ∨ σ.length ≤ i := h3
      omega
    refine (cof_step (B := σ.length) (g := gj (tbl ns) (sst ns) j) s W3 hlow lr (K9.get h3 (ng 3 (by omega) (by omega))) (K9.get h1 (ng 1 (by omega) (by omega))) c9 hj (hne.keep9 ho9 (Nat.le_refl _) K9) r9 (by simp)).mono ?_
    rintro fl lo' σ4 ⟨rfl, ⟨w, rfl⟩, Kr, hr4⟩
    refine ⟨Kr.getX g9 rfl, ⟨w, rfl⟩, K9.then (Kr.weak fun i hi => .inr (by have : i = rd := hi; omega)), ⟨_, Kr.get c9 (by show ¬ 9 = rd; omega)⟩, ?_⟩
    rw [map_succ]; exact hr4
  · rintro lo σ' ⟨-, ⟨z, rfl⟩, K, h9, hr⟩
    exact hb σ' rd z K (hW.keepB s hlow K h9) lr hr
end L3
end Mine

end
noncomputable section
open PySem PySem.W PyProof.Rows
set_option linter.unusedVariables false
set_option linter.unusedSimpArgs false
set_option autoImplicit false
set_option Elab.async false
set_option maxRecDepth 100000
set_option maxHeartbeats 1000000
namespace Mine
namespace L3
open R3 (lane outl U Law Acy upd whl cof com net NN KK Inv)
variable {ns : List Int} {nu la ro to tr si : Nat} {D : Nat → TD} {rw n : Nat → Nat}
structure Aux (ns : List Int) (D : Nat → TD) (σ : St) (ou rd bf : Nat) (n0 : Nat → Nat) : Prop where
  c3 : σ[3]? = some (.cell (some (.int (sst ns))))
  c2 : σ[2]? = some (.cell (some (.ref ou)))
  hou : σ[ou]? = some (.list ((List.range 3).map fun t => .int (outl (tbl ns t) : Nat)))
  hrd : σ[rd]? = some (.list ((List.range 3).map fun t => .int (cof (tbl ns) (sst ns) t)))
  c0 : σ[0]? = some (.cell (some (.ref bf)))
  hbf : σ[bf]? = some (.list ((List.range 3).map fun t => .int (n0 t)))
theorem Aux.keep {σ σ' : St} {ou rd bf : Nat} {n0 : Nat → Nat} (h : Aux ns D σ ou rd bf n0) {S : Nat → Prop} (K : Keep S σ σ') (h1 : ¬ S 3) (h2 : ¬ S 2) (h3 : ¬ S 0) (h4 : ¬ S ou) (h5 : ¬ S rd) (h6 : ¬ S bf) : Aux ns D σ' ou rd bf n0 :=
  ⟨K.get h.c3 h1, K.get h.c2 h2, K.get h.hou h4, K.get h.hrd h5, K.get h.c0 h3, K.get h.hbf h6⟩
theorem WR.getLast {Q : V → St → Prop} {σ : St} {k : Nat} {vs : List V} {v : V} (h : σ[k]? = some (.list (vs ++ [v]))) (q : Q v σ) : WR (getV T (.ref k) (.int (-1)) σ) Q := by
  refine ⟨v, σ, ?_, q⟩
  have e : idx (vs ++ [v]).length (-1) = some vs.length := by
    refine idx_neg ?_ (by simp)
    simp only [List.length_append, List.length_cons, List.length_nil]
    omega
  simp only [getV, h, e, Option.bind_some]
  rw [List.getElem?_append_right (Nat.le_refl _), Nat.sub_self]; rfl
theorem com_small (ns : List Int) : small ((com (tbl ns) (sst ns) : Nat) : Int) = true ∧ ((com (tbl ns) (sst ns) : Nat) : Int) ≠ 0 ∧ (whl (tbl ns)).fdiv ((com (tbl ns) (sst ns) : Nat) : Int) = ((NN (tbl ns) (sst ns) : Nat) : Int) := by
  have hs := sst_lt ns
  have hf := (R3.fact (ti := tbl ns) (fun t _ => tbl_lt ns t) hs).1
  have hp := R3.com_pos (ti := tbl ns) (fun t _ => tbl_lt ns t) hs
  have hd := Nat.le_of_dvd (by omega) (R3.com_dvd (ti := tbl ns) (s := sst ns)).1
  refine ⟨small_of (by omega) (by omega), by omega, ?_⟩
  rw [Int.fdiv_eq_ediv_of_nonneg _ (by omega)]
  unfold NN
  rw [Int.natCast_ediv]
  congr 1
  omega
theorem segF1 (s : Sta ns nu la ro to tr si D rw) {σ : St} {ou rd : Nat} (hW : Wld ns σ nu la ro to tr si D rw n) (h3 : σ[3]? = some (.cell (some (.int (sst ns))))) (h2 : σ[2]? = some (.cell (some (.ref ou)))) (hou : σ[ou]? = some (.list ((List.range 3).map fun t => .int (outl (tbl ns t) : Nat))))
    (hrd : σ[rd]? = some (.list ((List.range 3).map fun t => .int (cof (tbl ns) (sst ns) t)))) {lo : List (Option V)} {P : Fl → List (Option V) → St → Prop} {b : SF}
    (hb : ∀ (σ' : St) (bf : Nat), Wld ns σ' nu la ro to tr si D rw n → Aux ns D σ' ou rd bf n → ¬ Mut D bf → σ.length ≤ bf → WS (b ⟨lo, CL⟩ σ') P) :
    WS (consL (asgC 0 (compE T false (celE 6) 1 0 [] (tgL 0) none (biE (lenV T) (consS (locE 0) nilS)))) b ⟨lo, CL⟩ σ) P := by
  have ec : celE 6 ⟨lo, CL⟩ σ = some (.ok (.ref to) σ) := by
    simp only [celE, CL, List.getElem?_cons_succ, List.getElem?_cons_zero, Option.bind_some, hW.pa.c6]
  refine WS.setC ?_
  refine WR.compE (kd := .list) (len := 3) ec (kd_list hW.trio.to) (.inl rfl)
    (fun j lo2 σ' ys => Keep (fun _ => False) σ σ' ∧ lo2.length = 1 ∧ ys = (List.range j).map fun t => .int (n t)) ?_ ?_ ?_ ?_
  · exact ⟨by simpa using Keep.refl _ _, rfl, rfl⟩
  · rintro j lo2 σ' ys ⟨K, -, -⟩
    exact kd_list (K.getF hW.trio.to)
  · rintro j lo2 σ' ys hj ⟨K, hlo2, rfl⟩
    obtain ⟨x0, rfl⟩ : ∃ x0, lo2 = [x0] := List.length_eq_one_iff.1 hlo2
    refine ⟨by simp; omega, .ref (D j).m, [some (.ref (D j).m)], σ', ?_, rfl, ?_⟩
    · rw [it_list (K.getF hW.trio.to)]; exact pick3 (fun t => V.ref (D t).m) hj
    refine WR.ok.2 ?_
    rw [if_pos rfl]
    refine WR.biE (WR.consS (WR.locE rfl (WR.nilS (WR.lenL (K.getF (hW.trio.t j hj).an) ⟨K, rfl, ?_⟩))))
    rw [map_succ, List.length_map, List.length_range]
  rintro lo2 σ2 ys ⟨K, -, rfl⟩
  have K6 := K.addF (Keep.app (fun _ => False) σ2 [.list ((List.range 3).map fun t => .int (n t))])
  have g6 := getElem?_len σ2 (.list ((List.range 3).map fun t => .int (n t)))
  have lm : σ.length ≤ σ2.length := K.len
  generalize σ2.length = bf at *
  generalize σ2 ++ [.list ((List.range 3).map fun t => .int (n t))] = σ3 at *
  have W3 := hW.keepF s K6
  refine ⟨W3.pa.ce, ?_⟩
  obtain ⟨o0, h0⟩ := W3.pa.ce 0 (by omega)
  have K0 : Keep (· = 0) σ3 (σ3.set 0 (.cell (some (.ref bf)))) := Keep.set (S := (· = 0)) h0 rfl rfl
  have nl : ∀ {i : Nat} {vs : List V}, σ3[i]? = some (.list vs) → ¬ i = 0 := fun e => ne_of_get e h0 (by simp)
  refine hb _ bf (W3.setC s (c := 0) (by omega) (by omega) (by omega) (by omega) (by omega) (some (.ref bf))) ⟨K0.get (K6.getF h3) (by show ¬ 3 = 0; omega), K0.get (K6.getF h2) (by show ¬ 2 = 0; omega), K0.get (K6.getF hou) (nl (K6.getF hou)), K0.get (K6.getF hrd) (nl (K6.getF hrd)), get_set h0, K0.get g6 (nl g6)⟩ ?_ lm
  intro hm
  have := mut_lt hW bf hm
  omega
abbrev mainB (call : CallF) : SF := (consL (exprS (lmE appV (locE 15) (consS (callE call 21 (consS (locE 2) (consS (locE 3) (consS (celE 6) (consS (celE 3) nilS))))) nilS)))
 (consL (ifS (truE (cmpE T call .lt (subE T (locE 15) (negE (intE 1))) (intE 0)))
 (consL (retS (boolE false))
 nilL)
 nilL)
 (consL (asgK T 16 false (biE rangeV (consS (intE 3) nilS)) 1 0 [6, 0, 2] (tgL 0) (some (truE (binE .mod (binE .sub (biE (lenV T) (consS (subE T (celE 0) (locE 0)) nilS)) (subE T (celE 1) (locE 0))) (subE T (celE 2) (locE 0))))) (locE 0))
 (consL (ifS (truE (cmpE T call .ne (cmpE T call .eq (locE 16) (listE nilS)) (cmpE T call .eq (locE 10) (binE .fdiv (locE 11) (locE 13)))))
 (consL (retS (boolE false))
 nilL)
 nilL)
 nilL))))
theorem main_step (s : Sta ns nu la ro to tr si D rw) {σ : St} {B ou rd bf en w : Nat} {n0 : Nat → Nat} {ends : List Nat} (hW : Wld ns σ nu la ro to tr si D rw n) (hB : Bd nu la ro to tr si D rw B) (hen : B ≤ en) (hx : Aux ns D σ ou rd bf n0) (mx : ¬ Mut D ou ∧ ¬ Mut D rd ∧ ¬ Mut D bf) (ex : en ≠ ou ∧ en ≠ rd ∧ en ≠ bf)
    (he : σ[en]? = some (.list (ends.map fun e : Nat => .int (e : Nat)))) (h0 : Acy (RD D) (R3.oo (tbl ns)) n0 3) (hi : Inv (RD D) (tbl ns) (sst ns) n0 w n ends) (hw : w < NN (tbl ns) (sst ns)) (hn : ∀ t, n t ≤ 30 + 9 * w) {x0 x1 y4 y5 y6 y7 y8 y9 y14 y16 : Option V} {L : List (Option V)} :
    WS (mainB (callN 30) ⟨x0 :: x1 :: some (.ref tr) :: some (.ref si) :: y4 :: y5 :: y6 :: y7 :: y8 :: y9 :: some (.int ((w + 1 : Nat) : Int)) :: some (.int (whl (tbl ns))) :: some (.ref rd) :: some (.int (com (tbl ns) (sst ns) : Nat)) :: y14 :: some (.ref en) :: y16 :: L, CL⟩ σ) fun fl lo' σ' => fl = .next ∧
      (∃ y16, lo' = x0 :: x1 :: some (.ref tr) :: some (.ref si) :: y4 :: y5 :: y6 :: y7 :: y8 :: y9 :: some (.int ((w + 1 : Nat) : Int)) :: some (.int (whl (tbl ns))) :: some (.ref rd) :: some (.int (com (tbl ns) (sst ns) : Nat)) :: y14 :: some (.ref en) :: y16 :: L) ∧
      ∃ r n', Wld ns σ' nu la ro to tr si D rw n' ∧ Aux ns D σ' ou rd bf n0 ∧ σ'[en]? = some (.list ((ends ++ [r]).map fun e : Nat => .int (e : Nat))) ∧ Inv (RD D) (tbl ns) (sst ns) n0 (w + 1) n' (ends ++ [r]) ∧ (∀ t, n' t ≤ 30 + 9 * (w + 1)) ∧ Keep (fun i => Mut D i ∨ i = en) σ σ' := by
  have l := law_of s.dt
  have hs := sst_lt ns
  obtain ⟨r, n', hwk, hi'⟩ := hi.next l hs hw
  have hle := (R3.walk_le 9 n _ r n' hwk).1
  have hN := R3.NN_pos (ti := tbl ns) (fun t _ => tbl_lt ns t) hs
  have hc := hB.c
  obtain ⟨cs1, cs2, cs3⟩ := com_small ns
  -- a walk
  refine WS.exprS (WR.lmE (WR.locE rfl ⟨by simp only [listAtV, he], WR.consS (WR.callE (WR.consS (WR.locE rfl (WR.consS (WR.locE rfl (WR.consS (WR.celE (k := 6) rfl hW.pa.c6 (WR.consS (WR.celE (k := 3) rfl hx.c3 (WR.nilS ?_))))))))))⟩))
  refine (walk30 s.sp hW.trio hs (fun t => by have := hn t; omega) hwk).mono ?_
  rintro v σ1 ⟨rfl, T1, K1⟩
  have men : ¬ Mut D en := fun h => by have := hB.m en h; omega
  have W1 := hW.mut s K1 T1
  have e1 := K1.get he men
  have hx1 := hx.keep K1 (s.cm 3 (by omega)) (s.cm 2 (by omega)) (s.cm 0 (by omega)) mx.1 mx.2.1 mx.2.2
  have elen : ends.length < 16777216 := by have := hi.len; omega
  refine WR.nilS (WR.app e1 (by rw [List.length_map]; exact elen) ?_)
  have ce : (ends.map fun e : Nat => V.int (e : Nat)) ++ [.int (r : Nat)] = (ends ++ [r]).map fun e : Nat => V.int (e : Nat) := by rw [List.map_append]; rfl
  have K2 : Keep (· = en) σ1 (σ1.set en (.list ((ends.map fun e : Nat => V.int (e : Nat)) ++ [.int (r : Nat)]))) := Keep.set (S := (· = en)) e1 rfl rfl
  have e2 := get_set (o' := .list ((ends.map fun e : Nat => V.int (e : Nat)) ++ [.int (r : Nat)])) e1
  obtain ⟨o9, h9⟩ := W1.pa.ce 9 (by omega)
  have W2 := W1.keepB s hB (K2.weak (S' := S9 B) fun i hi => .inr (by have : i = en := hi; omega)) ⟨_, K2.get h9 (by show ¬ 9 = en; omega)⟩
  have hx2 := hx1.keep K2 (by show ¬ 3 = en; omega) (by show ¬ 2 = en; omega) (by show ¬ 0 = en; omega) (Ne.symm ex.1) (Ne.symm ex.2.1) (Ne.symm ex.2.2)
  have KA : Keep (fun i => Mut D i ∨ i = en) σ (σ1.set en (.list ((ends.map fun e : Nat => V.int (e : Nat)) ++ [.int (r : Nat)]))) := (K1.weak fun i h => .inl h).then (K2.weak fun i h => .inr h)
  generalize (σ1.set en (.list ((ends.map fun e : Nat => V.int (e : Nat)) ++ [.int (r : Nat)]))) = σ2 at *
  have r0 : decide ((r : Int) < 0) = false := decide_eq_false (by omega)
  refine WS.ifF (WR.truE (WR.cmpE (WR.subE (WR.locE rfl (WR.negE (WR.intE (WR.neg (WR.getLast e2 (WR.intE ?_)))))))))
  simp only [cmpV, WR.ok, truV, r0, true_and]
  refine WS.nilCons.2 ?_
  rw [ce] at e2
  -- the odd ones
  have g4 := getElem?_len σ2 (.rng 0 3)
  have K4 := Keep.app (fun _ => False) σ2 [.rng 0 3]
  have hcl : (List.range 0).map (σ2.length + ·) ++ [6, 0, 2].map (fun j => ((CL : List Nat)[j]?).getD 0) = [6, 0, 2] := rfl
  refine WS.asgK (σ1 := σ2 ++ [.rng 0 3]) (a := .ref σ2.length) (kd := .rng 0) (len := 3) rfl (kd_rng g4 rfl rfl rfl) (.inl rfl)
    (fun k lo2 σ' ys => Keep (fun _ => False) (σ2 ++ [.rng 0 3]) σ' ∧ lo2.length = 1 ∧ ys = ((List.range k).filter fun t => (n' t - n0 t) % outl (tbl ns t) != 0).map fun t => .int (t : Nat)) ?_ ?_ ?_ ?_
  · exact ⟨by simpa using Keep.refl _ _, rfl, rfl⟩
  · rintro k lo2 σ' ys ⟨K, -, -⟩
    exact kd_rng (K.getF g4) rfl rfl rfl
  · rintro k lo2 σ' ys hk ⟨K, hlo2, rfl⟩
    obtain ⟨z0, rfl⟩ : ∃ z0, lo2 = [z0] := List.length_eq_one_iff.1 hlo2
    have old : ∀ i o, σ2[i]? = some o → σ'[i]? = some o := fun i o e => K.getF (K4.getF e)
    have o23 := R3.out23 _ (tbl_lt ns k)
    refine ⟨?_, .int k, [some (.int k)], σ', ?_, rfl, ?_⟩
    · rw [List.length_map]
      have := List.length_filter_le (fun t => (n' t - n0 t) % outl (tbl ns t) != 0) (List.range k)
      rw [List.length_range] at this
      omega
    · rw [it_rng (K.getF g4), Int.zero_add]
    show WR (testE (some _) ⟨_, [6, 0, 2]⟩ _) _
    refine WR.truE (WR.binE (WR.binE (WR.biE (WR.consS (WR.subE (WR.celE (k := 6) rfl (old _ _ W2.pa.c6) (WR.locE rfl (WR.getL (old _ _ W2.trio.to) k rfl (pick3 (fun t => V.ref (D t).m) hk) (WR.nilS (WR.lenL (old _ _ (W2.trio.t k hk).an) ?_))))))))))
    have hb3 : ((List.range 3).map fun t => V.int (n0 t : Nat))[k]? = some (.int (n0 k : Nat)) := by rw [List.getElem?_map, List.getElem?_range hk]; rfl
    have ho3 : ((List.range 3).map fun t => V.int (outl (tbl ns t) : Nat))[k]? = some (.int (outl (tbl ns k) : Nat)) := by rw [List.getElem?_map, List.getElem?_range hk]; rfl
    refine WR.subE (WR.celE (k := 0) rfl (old _ _ hx2.c0) (WR.locE rfl (WR.getL (old _ _ hx2.hbf) k rfl hb3 (WR.sub ?_))))
    refine WR.subE (WR.celE (k := 2) rfl (old _ _ hx2.c2) (WR.locE rfl (WR.getL (old _ _ hx2.hou) k rfl ho3 (WR.mod (by omega) ?_))))
    have lo := hi'.lo k hk
    have em : (((List.map (fun k_1 => V.int ((D k).ans k_1)) (List.range (n' k))).length : Int) - (n0 k : Int)).fmod (outl (tbl ns k) : Int) = (((n' k - n0 k) % outl (tbl ns k) : Nat) : Int) := by
      rw [List.length_map, List.length_range, Int.fmod_eq_emod_of_nonneg _ (by omega), ← Int.natCast_sub lo]; rfl
    rw [em]
    simp only [truV, WR.ok]
    have ef : ((List.range (k + 1)).filter fun t => (n' t - n0 t) % outl (tbl ns t) != 0) = ((List.range k).filter fun t => (n' t - n0 t) % outl (tbl ns t) != 0) ++ if ((n' k - n0 k) % outl (tbl ns k) != 0) = true then [k] else [] := filt_succ _ _
    rw [ef]
    by_cases e : (n' k - n0 k) % outl (tbl ns k) = 0
    · have z : ((((n' k - n0 k) % outl (tbl ns k) : Nat) : Int) != 0) = false := by rw [e]; rfl
      have z' : ((n' k - n0 k) % outl (tbl ns k) != 0) = false := by rw [e]; rfl
      rw [z, z', if_neg (by simp), if_neg (by simp), List.append_nil]
      exact ⟨K, rfl, rfl⟩
    · have z : ((((n' k - n0 k) % outl (tbl ns k) : Nat) : Int) != 0) = true := by simp only [bne_iff_ne, ne_eq]; omega
      have z' : ((n' k - n0 k) % outl (tbl ns k) != 0) = true := by simp only [bne_iff_ne, ne_eq]; exact e
      rw [z, z', if_pos rfl, if_pos rfl]
      exact WR.locE rfl ⟨K, rfl, by rw [List.map_append]; rfl⟩
  rintro lo2 σ3 ys ⟨K, -, rfl⟩
  have test := hi'.test l hs h0 (by omega) (by omega)
  have K6 := (K4.addF K).addF (Keep.app (fun _ => False) σ3 [.list (((List.range 3).filter fun t => (n' t - n0 t) % outl (tbl ns t) != 0).map fun t => .int (t : Nat))])
  have g6 := getElem?_len σ3 (.list (((List.range 3).filter fun t => (n' t - n0 t) % outl (tbl ns t) != 0).map fun t => .int (t : Nat)))
  have hodd : (((List.range 3).filter fun t => (n' t - n0 t) % outl (tbl ns t) != 0) = []) ↔ w + 1 = NN (tbl ns) (sst ns) := by
    rw [← test, List.filter_eq_nil_iff]
    constructor
    · intro h t ht
      have := h t (List.mem_range.2 ht)
      simpa using this
    · intro h t ht
      have := h t (List.mem_range.1 ht)
      simpa using this
  generalize ((List.range 3).filter fun t => (n' t - n0 t) % outl (tbl ns t) != 0) = odd at *
  generalize σ3.length = ol at *
  generalize σ3 ++ [.list (odd.map fun t => .int (t : Nat))] = σ4 at *
  simp only [setLo, List.set_cons_succ, List.set_cons_zero]
  have g7 := get_app (τ := [.list []]) g6
  have g7' := getElem?_len σ4 (.list [])
  have K7 := K6.addF (Keep.app (fun _ => False) σ4 [.list []])
  refine WS.ifF (WR.truE (WR.cmpE (WR.cmpE (WR.locE rfl (WR.listE (WR.nilS ⟨by simp, ?_⟩))))))
  generalize σ4.length = el at *
  generalize σ4 ++ [.list []] = σ5 at *
  have hdq : deq ol el σ5 = some (decide (odd = [])) := by
    unfold deq
    simp only [g7, g7']
    have := intsV_map (odd.map fun t : Nat => (t : Int))
    rw [List.map_map] at this
    have this : intsV (odd.map fun t => V.int (t : Nat)) = some (odd.map fun t : Nat => (t : Int)) := this
    simp only [this, intsV]
    congr 1
    cases odd <;> simp
  simp only [cmpV, g7, hdq, Option.map_some, WR.ok]
  refine WR.cmpE (WR.locE rfl (WR.binE (WR.locE rfl (WR.locE rfl (WR.fdiv cs2 cs1 ?_)))))
  rw [cs3]
  simp only [cmpV, WR.ok, truV]
  have fin : (decide (odd = []) != (((w + 1 : Nat) : Int) == ((NN (tbl ns) (sst ns) : Nat) : Int))) = false := by
    by_cases e : w + 1 = NN (tbl ns) (sst ns)
    · have e1 := hodd.2 e
      rw [decide_eq_true e1, e]; simp
    · have e1 : ¬ odd = [] := fun h => e (hodd.1 h)
      rw [decide_eq_false e1]
      have : (((w + 1 : Nat) : Int) == ((NN (tbl ns) (sst ns) : Nat) : Int)) = false := by rw [beq_eq_false_iff_ne]; omega
      rw [this]; rfl
  refine ⟨fin, WS.nilCons.2 (WS.nil.2 ⟨rfl, ⟨_, rfl⟩, r, n', W2.keepF s K7, hx2.keep K7 (fun h => h) (fun h => h) (fun h => h) (fun h => h) (fun h => h) (fun h => h), K7.getF e2, hi', fun t => ?_, KA.addF K7⟩)⟩
  have h1 := hn t
  have h2 := hle t
  omega
/-- walker behind walker -/
theorem segF2 (s : Sta ns nu la ro to tr si D rw) {σ : St} {ou rd bf : Nat} {n0 : Nat → Nat} (hW : Wld ns σ nu la ro to tr si D rw n0) (hx : Aux ns D σ ou rd bf n0) (mx : ¬ Mut D ou ∧ ¬ Mut D rd ∧ ¬ Mut D bf) (h0 : Acy (RD D) (R3.oo (tbl ns)) n0 3) (hn : ∀ t, n0 t ≤ 30)
    {x0 x1 y4 y5 y6 y7 y8 y9 y10 y14 y15 y16 : Option V} {L : List (Option V)} {P : Fl → List (Option V) → St → Prop} {b : SF}
    (hb : ∀ (σ' : St) (en : Nat) (n : Nat → Nat) (ends : List Nat) (y10 y16 : Option V), Wld ns σ' nu la ro to tr si D rw n → Aux ns D σ' ou rd bf n0 → σ'[en]? = some (.list (ends.map fun e : Nat => .int (e : Nat))) → Inv (RD D) (tbl ns) (sst ns) n0 (NN (tbl ns) (sst ns)) n ends → (∀ t, n t ≤ 300) → ¬ Mut D en → WS (b ⟨x0 :: x1 :: some (.ref tr) :: some (.ref si) :: y4 :: y5 :: y6 :: y7 :: y8 :: y9 :: y10 :: some (.int (whl (tbl ns))) :: some (.ref rd) :: some (.int (com (tbl ns) (sst ns) : Nat)) :: y14 :: some (.ref en) :: y16 :: L, CL⟩ σ') P) :
    WS (consL (asgL 15 (listE nilS))
 (consL (forS T false (biE rangeV (consS (intE 1) (consS (binE .add (binE .fdiv (locE 11) (locE 13)) (intE 1)) nilS))) (tgL 10) (mainB (callN 30))) b) ⟨x0 :: x1 :: some (.ref tr) :: some (.ref si) :: y4 :: y5 :: y6 :: y7 :: y8 :: y9 :: y10 :: some (.int (whl (tbl ns))) :: some (.ref rd) :: some (.int (com (tbl ns) (sst ns) : Nat)) :: y14 :: y15 :: y16 :: L, CL⟩ σ) P := by
  have hs := sst_lt ns
  have hN := R3.NN_pos (ti := tbl ns) (fun t _ => tbl_lt ns t) hs
  obtain ⟨cs1, cs2, cs3⟩ := com_small ns
  have hB := hW.low
  refine WS.asgL (WR.listE (WR.nilS ⟨by simp, ?_⟩))
  have g1 := getElem?_len σ (.list [])
  have K1 := Keep.app (fun _ => False) σ [.list []]
  have W1 := hW.keepF s K1
  have hx1 := hx.keep K1 (fun h => h) (fun h => h) (fun h => h) (fun h => h) (fun h => h) (fun h => h)
  have l1 := lt_of_get hx.hou
  have l2 := lt_of_get hx.hrd
  have l3 := lt_of_get hx.hbf
  generalize hen : σ.length = en at *
  generalize σ ++ [.list []] = σ1 at *
  simp only [setLo, List.set_cons_succ, List.set_cons_zero]
  have g4 := getElem?_len σ1 (.rng 1 ((NN (tbl ns) (sst ns) : Nat) + 1))
  have K4 := Keep.app (fun _ => False) σ1 [.rng 1 ((NN (tbl ns) (sst ns) : Nat) + 1)]
  have er : biE rangeV (consS (intE 1) (consS (binE .add (binE .fdiv (locE 11) (locE 13)) (intE 1)) nilS)) ⟨x0 :: x1 :: some (.ref tr) :: some (.ref si) :: y4 :: y5 :: y6 :: y7 :: y8 :: y9 :: y10 :: some (.int (whl (tbl ns))) :: some (.ref rd) :: some (.int (com (tbl ns) (sst ns) : Nat)) :: y14 :: some (.ref en) :: y16 :: L, CL⟩ σ1 = some (.ok (.ref σ1.length) (σ1 ++ [.rng 1 ((NN (tbl ns) (sst ns) : Nat) + 1)])) := by
    simp only [biE, consS, nilS, intE, binE, locE, List.getElem?_cons_succ, List.getElem?_cons_zero, Option.join_some, Option.map_some, bindR, binV, cs1, cs2, ne_eq, not_false_eq_true, and_self, if_true, cs3, rangeV]
  refine WS.consB ?_
  refine WS.forS (a := .ref σ1.length) (kd := .rng 1) (len := NN (tbl ns) (sst ns)) er (kd_rng g4 rfl (small_of (by omega) (by omega)) (by omega)) (.inl rfl)
    (fun j lo σ' => σ'[σ1.length]? = some (.rng 1 ((NN (tbl ns) (sst ns) : Nat) + 1)) ∧ (∃ y10 y16, lo = x0 :: x1 :: some (.ref tr) :: some (.ref si) :: y4 :: y5 :: y6 :: y7 :: y8 :: y9 :: y10 :: some (.int (whl (tbl ns))) :: some (.ref rd) :: some (.int (com (tbl ns) (sst ns) : Nat)) :: y14 :: some (.ref en) :: y16 :: L) ∧
      ∃ n ends, Wld ns σ' nu la ro to tr si D rw n ∧ Aux ns D σ' ou rd bf n0 ∧ σ'[en]? = some (.list (ends.map fun e : Nat => .int (e : Nat))) ∧ Inv (RD D) (tbl ns) (sst ns) n0 j n ends ∧ ∀ t, n t ≤ 30 + 9 * j) ?_ ?_ ?_ ?_
  · exact ⟨g4, ⟨_, _, rfl⟩, n0, [], W1.keepF s K4, hx1.keep K4 (fun h => h) (fun h => h) (fun h => h) (fun h => h) (fun h => h) (fun h => h), K4.getF g1, Inv.start _ h0, fun t => by have := hn t; omega⟩
  · rintro j lo σ' ⟨g, -⟩
    exact kd_rng g rfl (small_of (by omega) (by omega)) (by omega)
  · rintro j lo σ' hj ⟨g, ⟨z, z2, rfl⟩, n, ends, W2, hx2, e2, i2, n2⟩
    refine ⟨.int ((j + 1 : Nat) : Int), x0 :: x1 :: some (.ref tr) :: some (.ref si) :: y4 :: y5 :: y6 :: y7 :: y8 :: y9 :: some (.int ((j + 1 : Nat) : Int)) :: some (.int (whl (tbl ns))) :: some (.ref rd) :: some (.int (com (tbl ns) (sst ns) : Nat)) :: y14 :: some (.ref en) :: z2 :: L, σ', ?_, rfl, ?_⟩
    · rw [it_rng g]; congr 2; omega
    refine (main_step (B := en) s W2 hB (Nat.le_refl _) hx2 mx (by omega) e2 h0 i2 hj n2).mono ?_
    rintro fl lo' σ'' ⟨rfl, ⟨w, rfl⟩, r, n', W3, hx3, e3, i3, n3, K⟩
    exact ⟨K.getX g rfl, ⟨_, _, rfl⟩, n', _, W3, hx3, e3, i3, n3⟩
  · rintro lo σ' ⟨-, ⟨z, z2, rfl⟩, n, ends, W2, hx2, e2, i2, n2⟩
    exact hb σ' en n ends z z2 W2 hx2 e2 i2 (fun t => by have := n2 t; omega) (fun h => by have := hB.m en h; omega)
end L3
end Mine

end
noncomputable section
open PySem PySem.W PyProof.Rows
set_option linter.unusedVariables false
set_option linter.unusedSimpArgs false
set_option autoImplicit false
set_option Elab.async false
set_option maxRecDepth 100000
set_option maxHeartbeats 1000000
namespace Mine
namespace L3
open R3 (lane outl U Law Acy upd whl cof com net NN Inv)
variable {ns : List Int} {nu la ro to tr si : Nat} {D : Nat → TD} {rw n : Nat → Nat}
abbrev S95 (B : Nat) : Nat → Prop := fun i => i = 9 ∨ i = 5 ∨ B ≤ i
theorem Wld.keepG {σ σ' : St} {B : Nat} (h : Wld ns σ nu la ro to tr si D rw n) (s : Sta ns nu la ro to tr si D rw) (hB : Bd nu la ro to tr si D rw B) (K : Keep (S95 B) σ σ') (h9 : ∃ o, σ'[9]? = some (.cell o)) (h5 : ∃ o, σ'[5]? = some (.cell o)) : Wld ns σ' nu la ro to tr si D rw n := by
  obtain ⟨o9, ho⟩ := h.pa.ce 9 (by omega)
  obtain ⟨o5, ho5⟩ := h.pa.ce 5 (by omega)
  have nl : ∀ {i : Nat} {vs : List V}, σ[i]? = some (.list vs) → i ≠ 9 ∧ i ≠ 5 := fun e => ⟨ne_of_get e ho (by simp), ne_of_get e ho5 (by simp)⟩
  obtain ⟨⟨p1, p2, p3, p4, p5, p6, p7⟩, t, q5, q6⟩ := h
  have hc := hB.c
  have g : ∀ i o, σ[i]? = some o → i ≠ 9 ∧ i ≠ 5 → i < B → σ'[i]? = some o := fun i o e h1 h2 => K.get e (by show ¬ (i = 9 ∨ i = 5 ∨ B ≤ i); omega)
  refine ⟨⟨fun j hj => ?_, g _ _ p2 (by omega) (by omega), g _ _ p3 (nl p3) hB.nu, g _ _ p4 (by omega) (by omega), g _ _ p5 (nl p5) hB.la, g _ _ p6 (by omega) (by omega), g _ _ p7 (by omega) (by omega)⟩, t.keep s.sp K ?_, g _ _ q5 (nl q5) hB.ro, fun t ht => g _ _ (q6 t ht) (nl (q6 t ht)) (hB.rw t ht)⟩
  · by_cases e : j = 9
    · subst e; exact h9
    · by_cases e5 : j = 5
      · subst e5; exact h5
      · obtain ⟨o, ho⟩ := p1 j hj
        exact ⟨o, g _ _ ho ⟨e, e5⟩ (by omega)⟩
  · intro i hi
    refine ⟨?_, ?_, ?_, fun u hu hx => ?_⟩
    · rintro rfl; have := nl t.tr; have := hB.tr; omega
    · rintro rfl; have := nl t.si; have := hB.si; omega
    · rintro rfl; have := nl t.to; have := hB.to; omega
    · rcases List.mem_cons.1 hx with hx | hx
      · have := hB.s u hu
        have := ne_of_get (t.t u hu).sg ho (by simp)
        have := ne_of_get (t.t u hu).sg ho5 (by simp)
        omega
      · have := hB.m i ⟨u, hu, hx⟩
        rcases hi with rfl | rfl | hi
        · exact s.cm 9 (by omega) ⟨u, hu, hx⟩
        · exact s.cm 5 (by omega) ⟨u, hu, hx⟩
        · omega
/-- the checks' world -/
structure GW (ns : List Int) (σ : St) (nu la ro to tr si : Nat) (D : Nat → TD) (rw n n0 : Nat → Nat) (ou rd bf en : Nat) (ends : List Nat) : Prop where
  w : Wld ns σ nu la ro to tr si D rw n
  x : Aux ns D σ ou rd bf n0
  e : σ[en]? = some (.list (ends.map fun e : Nat => .int (e : Nat)))
theorem GW.keep {σ σ' : St} {B ou rd bf en : Nat} {n0 : Nat → Nat} {ends : List Nat} (h : GW ns σ nu la ro to tr si D rw n n0 ou rd bf en ends) (s : Sta ns nu la ro to tr si D rw) (hl : σ.length ≤ B) (K : Keep (S95 B) σ σ') (h9 : ∃ o, σ'[9]? = some (.cell o)) (h5 : ∃ o, σ'[5]? = some (.cell o)) : GW ns σ' nu la ro to tr si D rw n n0 ou rd bf en ends := by
  obtain ⟨o9, ho⟩ := h.w.pa.ce 9 (by omega)
  obtain ⟨o5, ho5⟩ := h.w.pa.ce 5 (by omega)
  have nl : ∀ {i : Nat} {vs : List V}, σ[i]? = some (.list vs) → ¬ S95 B i := fun {i} {vs} e h => by
    have h : i = 9 ∨ i = 5 ∨ B ≤ i := h
    have := ne_of_get e ho (by simp)
    have := ne_of_get e ho5 (by simp)
    have := lt_of_get e
    omega
  have hc := h.w.low.c
  have nc : ∀ i, i < 12 → i ≠ 9 → i ≠ 5 → ¬ S95 B i := fun i h1 h2 h3 h => by
    have h : i = 9 ∨ i = 5 ∨ B ≤ i := h
    omega
  exact ⟨h.w.keepG s (h.w.low.mono hl) K h9 h5, h.x.keep K (nc 3 (by omega) (by omega) (by omega)) (nc 2 (by omega) (by omega) (by omega)) (nc 0 (by omega) (by omega) (by omega)) (nl h.x.hou) (nl h.x.hrd) (nl h.x.hbf), K.get h.e (nl h.e)⟩
/-- an answer's road -/
theorem ans_road (d : ∀ t, t < 3 → DT ns t (D t)) {t : Nat} (ht : t < 3) (k : Nat) : ∃ r, r < 4 ∧ lane (tbl ns t) r ≠ 0 ∧ (D t).ans k = num ns t r ∧ (D t).rd k = r := by
  obtain ⟨p, hp, e⟩ : ∃ p ∈ (D t).R, p.2 = (D t).ans k := by
    have hr : k % (D t).R.length < (D t).R.length := Nat.mod_lt _ (d t ht).ok.r.ne
    refine ⟨(D t).R[k % (D t).R.length], List.getElem_mem hr, ?_⟩
    unfold TD.ans
    rw [List.getD_eq_getElem?_getD, List.getElem?_eq_getElem hr]; rfl
  have hm := meas_rng ns t
  have nd := row_nodup (num_inj ns t) (m := meas ns t) (i := tbl ns t) (by omega) fun r hr => wgt_rng ns t (tbl_lt ns t) hr
  have hl := row_len (num ns t) (meas ns t) (tbl ns t)
  have o23 := R3.out23 _ (tbl_lt ns t)
  obtain ⟨-, -, -, hpm, -⟩ := sort_row (ps := rowOf (num ns t) (meas ns t) (tbl ns t)) (by omega) nd
  rw [(d t ht).R] at hp
  have := hpm.subset hp
  have mk : ∀ r, r < 4 → p ∈ blk (num ns t) (meas ns t) (tbl ns t) r → ∃ r, r < 4 ∧ lane (tbl ns t) r ≠ 0 ∧ (D t).ans k = num ns t r ∧ (D t).rd k = r := by
    intro r hr hb
    have hle := List.length_pos_of_mem hb
    rw [blk_len] at hle
    have e2 := blk_snd hb
    refine ⟨r, hr, by omega, by rw [← e, e2], ?_⟩
    unfold TD.rd
    rw [← e, e2, (d t ht).road, roadOf_nm (num_inj ns t) hr]
  simp only [rowOf, List.mem_append] at this
  rcases this with ((h | h) | h) | h
  · exact mk 0 (by omega) h
  · exact mk 1 (by omega) h
  · exact mk 2 (by omega) h
  · exact mk 3 (by omega) h
theorem ans_count (d : ∀ t, t < 3 → DT ns t (D t)) {t r : Nat} (ht : t < 3) (hr : r < 4) : ∀ m, ((List.range m).map fun k => (D t).ans k).count (num ns t r) = U (RD D) t r m
  | 0 => rfl
  | m + 1 => by
    rw [map_succ, List.count_append, ans_count d ht hr m, R3.U_succ, List.count_singleton]
    congr 1
    obtain ⟨r', h1, h2, h3, h4⟩ := ans_road d ht m
    rw [h3]
    show _ = if (D t).rd m = r then 1 else 0
    rw [h4]
    by_cases e : r' = r
    · subst e; simp
    · rw [if_neg e, if_neg]
      simp only [beq_iff_eq]
      exact fun x => e (num_inj ns t r' r h1 hr x)
theorem since_count (d : ∀ t, t < 3 → DT ns t (D t)) {t r a b : Nat} (ht : t < 3) (hr : r < 4) (hab : a ≤ b) : (((List.range b).map fun k => (D t).ans k).drop a).count (num ns t r) + U (RD D) t r a = U (RD D) t r b := by
  rw [← ans_count d ht hr b, ← ans_count d ht hr a]
  have h1 : ((List.range b).map fun k => (D t).ans k).take a = (List.range a).map fun k => (D t).ans k := by
    rw [← List.map_take]
    congr 1
    rw [List.take_range, Nat.min_eq_left hab]
  rw [← h1, Nat.add_comm, ← List.count_append, List.take_append_drop]
def fls (ns : List Int) (t : Nat) : List Nat := (List.range 4).filter fun r => lane (tbl ns t) r != 0
theorem fls_mem {t r : Nat} (h : r ∈ fls ns t) : r < 4 ∧ lane (tbl ns t) r ≠ 0 := by
  unfold fls at h
  rw [List.mem_filter, List.mem_range] at h
  exact ⟨h.1, by simpa using h.2⟩
theorem kvU_fls (ns : List Int) (t : Nat) : kvU ns t 4 = (fls ns t).map fun r => (num ns t r, .int r) := rfl
def shr (ns : List Int) (t : Nat) (l : List Nat) (g : Nat) : Nat := l.count g * (R3.KK (tbl ns) (sst ns) t * lane (tbl ns t) g)
theorem shr_all (ns : List Int) (t : Nat) {g : Nat} (hg : g < 4) : shr ns t (fls ns t) g = R3.KK (tbl ns) (sst ns) t * lane (tbl ns t) g := by
  unfold shr
  by_cases e : lane (tbl ns t) g = 0
  · rw [e]; simp
  · have nd : (fls ns t).Nodup := (List.nodup_range).filter _
    have : g ∈ fls ns t := by
      unfold fls
      rw [List.mem_filter, List.mem_range]
      exact ⟨hg, by simpa using e⟩
    rw [nd.count, if_pos this, Nat.one_mul]
theorem count_cast (ends : List Nat) (g : Nat) : (ends.map fun e : Nat => (e : Int)).count (g : Int) = ends.count g := by
  induction ends with
  | nil => rfl
  | cons a l ih =>
    rw [List.map_cons, List.count_cons, List.count_cons, ih]
    congr 1
    by_cases e : a = g
    · subst e; simp
    · have : ¬ (a : Int) = (g : Int) := by omega
      simp [e, this]
theorem KK_div (ns : List Int) {t : Nat} (ht : t < 3) : (cof (tbl ns) (sst ns) t).fdiv ((com (tbl ns) (sst ns) : Nat) : Int) = ((R3.KK (tbl ns) (sst ns) t : Nat) : Int) := by
  have hs := sst_lt ns
  have hf := (R3.fact (ti := tbl ns) (fun t _ => tbl_lt ns t) hs).2 t ht
  have hp := R3.com_pos (ti := tbl ns) (fun t _ => tbl_lt ns t) hs
  rw [Int.fdiv_eq_ediv_of_nonneg _ (by omega)]
  unfold R3.KK
  rw [Int.natCast_ediv]
  congr 1
  omega
end L3
end Mine

end
noncomputable section
open PySem PySem.W PyProof.Rows
set_option linter.unusedVariables false
set_option linter.unusedSimpArgs false
set_option autoImplicit false
set_option Elab.async false
set_option maxRecDepth 100000
set_option maxHeartbeats 1000000
namespace Mine
namespace L3
open R3 (lane outl U Law Acy upd whl cof com net NN Inv)
variable {ns : List Int} {nu la ro to tr si : Nat} {D : Nat → TD} {rw n : Nat → Nat}
abbrev chkB (call : CallF) : SF := (consL (asgL 8 (subE T (subE T (locE 3) (celE 9)) (celE 5)))
 (consL (asgL 19 (binE .mul (binE .fdiv (subE T (locE 12) (celE 9)) (locE 13)) (subE T (subE T (celE 8) (celE 9)) (locE 8))))
 (consL (ifS (truE (cmpE T call .ne (lmE countV (locE 18) (consS (celE 5) nilS)) (locE 19)))
 (consL (retS (boolE false))
 nilL)
 nilL)
 (consL (ifS (truE (cmpE T call .gt (locE 8) (intE 1)))
 (consL (augI T .add (locE 17) (binE .sub (locE 8) (intE 2)) (locE 19))
 nilL)
 nilL)
 nilL))))
theorem cel5 {σ' : St} {v : V} {lo : List (Option V)} (e : σ'[5]? = some (.cell (some v))) : celE 5 ⟨lo, CL⟩ σ' = some (.ok v σ') := by
  simp only [celE, CL, List.getElem?_cons_succ, List.getElem?_cons_zero, Option.bind_some, e]
theorem chk_step (s : Sta ns nu la ro to tr si D rw) {σ : St} {ou rd bf en gl sc t r : Nat} {n0 : Nat → Nat} {ends : List Nat} (hG : GW ns σ nu la ro to tr si D rw n n0 ou rd bf en ends) (ht : t < 3) (hr : r < 4) (hlr : lane (tbl ns t) r ≠ 0)
    (h9 : σ[9]? = some (.cell (some (.int t)))) (h5 : σ[5]? = some (.cell (some (.int (num ns t r))))) (hsc : σ[sc]? = some (.list (((List.range (n t)).map fun k => V.int ((D t).ans k)).drop (n0 t))))
    (hn : ∀ t, t < 3 → n t = n0 t + R3.KK (tbl ns) (sst ns) t * outl (tbl ns t)) {a b : Nat} (hgl : σ[gl]? = some (.list [.int (a : Nat), .int (b : Nat)]))
    {x0 x1 y4 y5 y6 y7 y8 y9 y10 y14 y16 y19 : Option V} :
    WS (chkB (callN 30) ⟨[x0, x1, some (.ref tr), some (.ref si), y4, y5, y6, y7, y8, y9, y10, some (.int (whl (tbl ns))), some (.ref rd), some (.int (com (tbl ns) (sst ns) : Nat)), y14, some (.ref en), y16, some (.ref gl), some (.ref sc), y19], CL⟩ σ) fun fl lo' σ' => fl = .next ∧
      (∃ y8 y19, lo' = [x0, x1, some (.ref tr), some (.ref si), y4, y5, y6, y7, y8, y9, y10, some (.int (whl (tbl ns))), some (.ref rd), some (.int (com (tbl ns) (sst ns) : Nat)), y14, some (.ref en), y16, some (.ref gl), some (.ref sc), y19]) ∧
      Keep (· = gl) σ σ' ∧ σ'[gl]? = some (.list [.int ((a + if r = 2 then R3.KK (tbl ns) (sst ns) t * lane (tbl ns t) r else 0 : Nat) : Int), .int ((b + if r = 3 then R3.KK (tbl ns) (sst ns) t * lane (tbl ns t) r else 0 : Nat) : Int)]) := by
  have l := law_of s.dt
  have W := hG.w
  have o23 := R3.out23 _ (tbl_lt ns t)
  obtain ⟨cs1, cs2, cs3⟩ := com_small ns
  have kb := R3.KK_le (ti := tbl ns) (fun t _ => tbl_lt ns t) (sst_lt ns) ht
  have lb := lane_le _ (tbl_lt ns t) r hr
  -- the road
  have hks : (num ns t r, meas ns t * (lane (tbl ns t) r : Int)) ∈ ksU ns t 4 := List.mem_map.2 ⟨r, by rw [List.mem_filter, List.mem_range]; exact ⟨hr, by simpa using hlr⟩, rfl⟩
  have hf := kv_find ns t _ hks
  dsimp only at hf
  rw [roadOf_nm (num_inj ns t) hr] at hf
  have hsg := (W.trio.t t ht).sg
  rw [(s.dt t ht).kv] at hsg
  refine WS.asgL (WR.subE (WR.subE (WR.locE rfl (WR.of_eq (cel9 h9) (WR.getL W.trio.si t rfl (pick3 (fun t => V.ref (D t).s) ht) (WR.of_eq (cel5 h5) (WR.getD hsg hf ?_)))))))
  simp only [setLo, List.set_cons_succ, List.set_cons_zero]
  -- what is due
  have hr3 : ((List.range 3).map fun t => V.int (cof (tbl ns) (sst ns) t))[t]? = some (.int (cof (tbl ns) (sst ns) t)) := by rw [List.getElem?_map, List.getElem?_range ht]; rfl
  refine WS.asgL (WR.binE (WR.binE (WR.subE (WR.locE rfl (WR.of_eq (cel9 h9) (WR.getL hG.x.hrd t rfl hr3 (WR.locE rfl (WR.fdiv cs2 cs1 ?_))))))))
  rw [KK_div ns ht]
  refine WR.lanes rfl W.pa.c8 W.pa.hla ht hr (cel9 h9) rfl (WR.mul (by rw [small_of (by omega) (by omega)]; rfl) ?_)
  rw [← Int.natCast_mul]
  simp only [setLo, List.set_cons_succ, List.set_cons_zero]
  -- the count
  have cnt : (((List.range (n t)).map fun k => (D t).ans k).drop (n0 t)).count (num ns t r) = R3.KK (tbl ns) (sst ns) t * lane (tbl ns t) r := by
    have h1 := since_count s.dt (a := n0 t) (b := n t) ht hr (by rw [hn t ht]; omega)
    have h2 := R3.share l hn ht hr
    have h2 : U (RD D) t r (n t) = U (RD D) t r (n0 t) + R3.KK (tbl ns) (sst ns) t * lane (tbl ns t) r := h2
    omega
  have iv : intsV (((List.range (n t)).map fun k => V.int ((D t).ans k)).drop (n0 t)) = some (((List.range (n t)).map fun k => (D t).ans k).drop (n0 t)) := by
    have := intsV_map (((List.range (n t)).map fun k => (D t).ans k).drop (n0 t))
    rw [List.map_drop, List.map_map] at this
    exact this
  refine WS.ifF (WR.truE (WR.cmpE (WR.lmE (WR.locE rfl ⟨by simp only [listAtV, hsc], WR.consS (WR.of_eq (cel5 h5) (WR.nilS ?_))⟩))))
  simp only [countV, hsc, iv, Option.map_some, WR.ok, cnt]
  refine WR.locE rfl ?_
  have nef : ((((R3.KK (tbl ns) (sst ns) t * lane (tbl ns t) r : Nat) : Int) != ((R3.KK (tbl ns) (sst ns) t * lane (tbl ns t) r : Nat) : Int)) : Bool) = false := by simp
  simp only [cmpV, WR.ok, truV, nef, true_and]
  refine WS.nilCons.2 ?_
  generalize hd : R3.KK (tbl ns) (sst ns) t * lane (tbl ns t) r = due at *
  -- the goals
  by_cases hg : 1 < r
  · refine WS.ifT (WR.truE (WR.cmpE (WR.locE rfl (WR.intE ?_))))
    have e1 : decide ((r : Int) > 1) = true := decide_eq_true (by omega)
    simp only [cmpV, WR.ok, truV, e1, true_and]
    have hr23 : r = 2 ∨ r = 3 := by omega
    have i2 : idx [V.int (a : Nat), .int (b : Nat)].length ((r : Int) - 2) = some (r - 2) := idx_nat (by omega) (by simp only [List.length_cons, List.length_nil]; omega)
    have gv : ([V.int (a : Nat), .int (b : Nat)] : List V)[r - 2]? = some (.int ((if r = 2 then a else b : Nat) : Int)) := by
      rcases hr23 with rfl | rfl <;> rfl
    refine WS.consAssoc.2 (WS.cons (R := fun lo' σ' => lo' = [x0, x1, some (.ref tr), some (.ref si), y4, y5, y6, y7, some (.int (r : Nat)), y9, y10, some (.int (whl (tbl ns))), some (.ref rd), some (.int (com (tbl ns) (sst ns) : Nat)), y14, some (.ref en), y16, some (.ref gl), some (.ref sc), some (.int (due : Nat))] ∧ σ.set gl (.list ([V.int (a : Nat), .int (b : Nat)].set (r - 2) (.int ((if r = 2 then a else b : Nat) + (due : Nat))))) = σ') ?_ ?_)
    · simp only [augI, locE, binE, binV, intE, List.getElem?_cons_succ, List.getElem?_cons_zero, Option.join_some, Option.map_some, bindE, bindR, getV, hgl, i2, Option.bind_some, gv, inpV, setV]
      exact ⟨_, _, _, rfl, rfl, rfl, rfl⟩
    · rintro lo' σ' ⟨rfl, rfl⟩
      refine WS.nilCons.2 (WS.nil.2 ⟨rfl, ⟨_, _, rfl⟩, Keep.set (S := (· = gl)) hgl rfl rfl, ?_⟩)
      rw [get_set hgl]
      rcases hr23 with rfl | rfl
      · simp
      · simp
  · refine WS.ifF (WR.truE (WR.cmpE (WR.locE rfl (WR.intE ?_))))
    have e1 : decide ((r : Int) > 1) = false := decide_eq_false (by omega)
    simp only [cmpV, WR.ok, truV, e1, true_and]
    refine WS.nilCons.2 (WS.nil.2 ⟨rfl, ⟨_, _, rfl⟩, Keep.refl _ _, ?_⟩)
    rw [hgl, if_neg (by omega), if_neg (by omega)]; rfl
theorem shr_succ (ns : List Int) (t : Nat) (l : List Nat) (r g : Nat) : shr ns t (l ++ [r]) g = shr ns t l g + if r = g then R3.KK (tbl ns) (sst ns) t * lane (tbl ns t) r else 0 := by
  unfold shr
  rw [List.count_append, List.count_singleton, Nat.add_mul]
  by_cases e : r = g
  · subst e; simp
  · simp [e]
abbrev townC (call : CallF) : SF := (consL (asgL 18 (sliceE T (subE T (celE 6) (celE 9)) (some (subE T (celE 0) (celE 9))) none))
 (consL (forS T false (subE T (locE 3) (celE 9)) (tgC 5) (chkB call))
 nilL))
/-- one town's shares -/
theorem chk_town (s : Sta ns nu la ro to tr si D rw) {σb σ : St} {ou rd bf en gl t : Nat} {n0 : Nat → Nat} {ends : List Nat} (hG : GW ns σb nu la ro to tr si D rw n n0 ou rd bf en ends) (ht : t < 3) (K0 : Keep (S95 σb.length) σb σ) (hB : σb.length ≤ gl)
    (h9 : σ[9]? = some (.cell (some (.int t)))) (h5 : ∃ o, σ[5]? = some (.cell o)) (hn : ∀ t, t < 3 → n t = n0 t + R3.KK (tbl ns) (sst ns) t * outl (tbl ns t)) {a b : Nat} (hgl : σ[gl]? = some (.list [.int (a : Nat), .int (b : Nat)]))
    {x0 x1 y4 y5 y6 y7 y8 y9 y10 y14 y16 y18 y19 : Option V} :
    WS (townC (callN 30) ⟨[x0, x1, some (.ref tr), some (.ref si), y4, y5, y6, y7, y8, y9, y10, some (.int (whl (tbl ns))), some (.ref rd), some (.int (com (tbl ns) (sst ns) : Nat)), y14, some (.ref en), y16, some (.ref gl), y18, y19], CL⟩ σ) fun fl lo' σ' => fl = .next ∧
      (∃ y8 y18 y19, lo' = [x0, x1, some (.ref tr), some (.ref si), y4, y5, y6, y7, y8, y9, y10, some (.int (whl (tbl ns))), some (.ref rd), some (.int (com (tbl ns) (sst ns) : Nat)), y14, some (.ref en), y16, some (.ref gl), y18, y19]) ∧
      Keep (fun i => i = 5 ∨ i = gl) σ σ' ∧ (∃ o, σ'[5]? = some (.cell o)) ∧ σ'[gl]? = some (.list [.int ((a + R3.KK (tbl ns) (sst ns) t * lane (tbl ns t) 2 : Nat) : Int), .int ((b + R3.KK (tbl ns) (sst ns) t * lane (tbl ns t) 3 : Nat) : Int)]) := by
  have G1 := hG.keep s (Nat.le_refl _) K0 ⟨_, h9⟩ h5
  have W := G1.w
  have hc := hG.w.low.c
  have hn0 : n0 t ≤ n t := by rw [hn t ht]; omega
  have hb3 : ((List.range 3).map fun t => V.int (n0 t : Nat))[t]? = some (.int (n0 t : Nat)) := by rw [List.getElem?_map, List.getElem?_range ht]; rfl
  have cu : cutV ((List.range (n t)).map fun k => V.int ((D t).ans k)) (some (n0 t : Int)) none = ((List.range (n t)).map fun k => V.int ((D t).ans k)).drop (n0 t) := by
    unfold cutV kms_lo kms_hi
    dsimp only
    rw [if_neg (by omega)]
    simp only [List.length_map, List.length_range, Int.toNat_natCast, Nat.min_eq_left hn0]
    rw [List.take_of_length_le (by simp)]
  refine WS.asgL (WR.sliceE (WR.subE (WR.celE (k := 6) rfl W.pa.c6 (WR.of_eq (cel9 h9) (WR.getL W.trio.to t rfl (pick3 (fun t => V.ref (D t).m) ht) ?_)))))
  show WR (partE (some _) _ _) _
  refine WR.subE (WR.celE (k := 0) rfl G1.x.c0 (WR.of_eq (cel9 h9) (WR.getL G1.x.hbf t rfl hb3 (WR.partN (WR.slice (W.trio.t t ht).an rfl rfl ?_)))))
  rw [cu]
  have g1 := getElem?_len σ (.list (((List.range (n t)).map fun k => V.int ((D t).ans k)).drop (n0 t)))
  have K1 := Keep.app (fun _ => False) σ [.list (((List.range (n t)).map fun k => V.int ((D t).ans k)).drop (n0 t))]
  have glt : gl < σ.length := lt_of_get hgl
  have h91 := K1.getF h9
  have hgl1 := K1.getF hgl
  have sl := K0.len
  generalize hsc : σ.length = sc at *
  generalize σ ++ [.list (((List.range (n t)).map fun k => V.int ((D t).ans k)).drop (n0 t))] = σ1 at *
  simp only [setLo, List.set_cons_succ, List.set_cons_zero]
  obtain ⟨ep, hep⟩ := (s.dt t ht).ep
  have hkv := (s.dt t ht).kv
  have kvl : (kvU ns t 4).length = (fls ns t).length := by rw [kvU_fls, List.length_map]
  have kd : ∀ σ', GW ns σ' nu la ro to tr si D rw n n0 ou rd bf en ends → kdOf T (.ref (D t).s) σ' = some (.dict ep, (fls ns t).length) := fun σ' h => by
    have := (h.w.trio.t t ht).sg
    rw [hkv, hep] at this
    simp only [kdOf, this, kvl]
  have K01 := K0.addF K1
  have h51 : ∃ o, σ1[5]? = some (.cell o) := by obtain ⟨o, ho⟩ := h5; exact ⟨o, K1.getF ho⟩
  have G2 := hG.keep s (Nat.le_refl _) K01 ⟨_, h91⟩ h51
  refine WS.consB ?_
  refine WS.forS (a := .ref (D t).s) (σ1 := σ1) (kd := .dict ep) (len := (fls ns t).length) ?_ (kd σ1 G2) (.inl rfl)
    (fun i lo σ' => (∃ y8 y19, lo = [x0, x1, some (.ref tr), some (.ref si), y4, y5, y6, y7, y8, y9, y10, some (.int (whl (tbl ns))), some (.ref rd), some (.int (com (tbl ns) (sst ns) : Nat)), y14, some (.ref en), y16, some (.ref gl), some (.ref sc), y19]) ∧
      Keep (fun i => i = 5 ∨ i = gl) σ1 σ' ∧ (∃ o, σ'[5]? = some (.cell o)) ∧ σ'[gl]? = some (.list [.int ((a + shr ns t ((fls ns t).take i) 2 : Nat) : Int), .int ((b + shr ns t ((fls ns t).take i) 3 : Nat) : Int)])) ?_ ?_ ?_ ?_
  · obtain ⟨v, σ', e1, e2, e3⟩ : WR (subE T (locE 3) (celE 9) ⟨[x0, x1, some (.ref tr), some (.ref si), y4, y5, y6, y7, y8, y9, y10, some (.int (whl (tbl ns))), some (.ref rd), some (.int (com (tbl ns) (sst ns) : Nat)), y14, some (.ref en), y16, some (.ref gl), some (.ref sc), y19], CL⟩ σ1) fun v σ' => v = .ref (D t).s ∧ σ' = σ1 := WR.subE (WR.locE rfl (WR.of_eq (cel9 h91) (WR.getL G2.w.trio.si t rfl (pick3 (fun t => V.ref (D t).s) ht) ⟨rfl, rfl⟩)))
    rw [e1, e2, e3]
  · refine ⟨⟨_, _, rfl⟩, Keep.refl _ _, h51, ?_⟩
    have z : ∀ g, shr ns t ((fls ns t).take 0) g = 0 := fun g => by simp [shr]
    rw [z, z]
    exact hgl1
  · rintro i lo σ' ⟨-, K, h5', -⟩
    refine kd σ' (hG.keep s (Nat.le_refl _) (K01.then (K.weak fun i hi => ?_)) ⟨_, K.get h91 (by show ¬ (9 = 5 ∨ 9 = gl); omega)⟩ h5')
    rcases hi with hi | hi
    · exact .inr (.inl hi)
    · exact .inr (.inr (by omega))
  · rintro i lo σ' hi ⟨⟨z8, z19, rfl⟩, K, ⟨o5, ho5⟩, hgl'⟩
    have KS : Keep (S95 σb.length) σb σ' := K01.then (K.weak fun i hi => by
      rcases hi with hi | hi
      · exact .inr (.inl hi)
      · exact .inr (.inr (by omega)))
    have h92 := K.get h91 (by show ¬ (9 = 5 ∨ 9 = gl); omega)
    have G3 := hG.keep s (Nat.le_refl _) KS ⟨_, h92⟩ ⟨_, ho5⟩
    obtain ⟨hr4, hlr⟩ := fls_mem (List.getElem_mem hi)
    have hit : itemAt T (.ref (D t).s) i σ' = some (.int (num ns t (fls ns t)[i])) := by
      have := (G3.w.trio.t t ht).sg
      rw [hkv, kvU_fls] at this
      simp only [itemAt, this, List.getElem?_map, List.getElem?_eq_getElem hi, Option.map_some]
    refine ⟨_, _, σ'.set 5 (.cell (some (.int (num ns t (fls ns t)[i])))), hit, tgC_eq (k := 5) rfl ho5, ?_⟩
    have K5 : Keep (· = 5) σ' (σ'.set 5 (.cell (some (.int (num ns t (fls ns t)[i]))))) := Keep.set (S := (· = 5)) ho5 rfl rfl
    have c5 := get_set (o' := .cell (some (.int (num ns t (fls ns t)[i])))) ho5
    have K6 : Keep (fun i => i = 5 ∨ i = gl) σ1 (σ'.set 5 (.cell (some (.int (num ns t (fls ns t)[i]))))) := K.then (K5.weak fun i hi => .inl hi)
    generalize σ'.set 5 (.cell (some (.int (num ns t (fls ns t)[i])))) = σ2 at *
    have h93 := K5.get h92 (by show ¬ 9 = 5; omega)
    have G4 := hG.keep s (Nat.le_refl _) (KS.then (K5.weak fun i hi => .inr (.inl hi))) ⟨_, h93⟩ ⟨_, c5⟩
    refine (chk_step s G4 ht hr4 hlr h93 c5 (K6.get g1 (by show ¬ (sc = 5 ∨ sc = gl); omega)) hn (K5.get hgl' (by show ¬ gl = 5; omega))).mono ?_
    rintro fl lo' σ3 ⟨rfl, ⟨w8, w19, rfl⟩, K7, hg⟩
    refine ⟨⟨_, _, rfl⟩, K6.then (K7.weak fun i hi => .inr hi), ⟨_, K7.get c5 (by show ¬ 5 = gl; omega)⟩, ?_⟩
    rw [List.take_succ_eq_append_getElem hi, shr_succ, shr_succ, ← Nat.add_assoc, ← Nat.add_assoc]
    exact hg
  · rintro lo σ' ⟨⟨z8, z19, rfl⟩, K, h5', hgl'⟩
    rw [List.take_length, shr_all ns t (by omega), shr_all ns t (by omega)] at hgl'
    exact WS.nil.2 ⟨rfl, ⟨_, _, _, rfl⟩, (K1.weak fun _ h => h.elim).then K, h5', hgl'⟩
/-- every road's share, and the goals' -/
theorem segG (s : Sta ns nu la ro to tr si D rw) {σ : St} {ou rd bf en : Nat} {n0 : Nat → Nat} {ends : List Nat} (hG : GW ns σ nu la ro to tr si D rw n n0 ou rd bf en ends) (hn : ∀ t, t < 3 → n t = n0 t + R3.KK (tbl ns) (sst ns) t * outl (tbl ns t))
    {x0 x1 y4 y5 y6 y7 y8 y9 y10 y14 y16 y17 y18 y19 : Option V} {P : Fl → List (Option V) → St → Prop} {b : SF}
    (hb : ∀ (σ' : St) (gl : Nat) (y8 y18 y19 : Option V), GW ns σ' nu la ro to tr si D rw n n0 ou rd bf en ends →
      σ'[gl]? = some (.list [.int ((R3.KK (tbl ns) (sst ns) 0 * lane (tbl ns 0) 2 + R3.KK (tbl ns) (sst ns) 1 * lane (tbl ns 1) 2 + R3.KK (tbl ns) (sst ns) 2 * lane (tbl ns 2) 2 : Nat) : Int), .int ((R3.KK (tbl ns) (sst ns) 0 * lane (tbl ns 0) 3 + R3.KK (tbl ns) (sst ns) 1 * lane (tbl ns 1) 3 + R3.KK (tbl ns) (sst ns) 2 * lane (tbl ns 2) 3 : Nat) : Int)]) →
      WS (b ⟨[x0, x1, some (.ref tr), some (.ref si), y4, y5, y6, y7, y8, y9, y10, some (.int (whl (tbl ns))), some (.ref rd), some (.int (com (tbl ns) (sst ns) : Nat)), y14, some (.ref en), y16, some (.ref gl), y18, y19], CL⟩ σ') P) :
    WS (consL (asgL 17 (listE (consS (intE 0) (consS (intE 0) nilS))))
 (consL (forS T false (biE rangeV (consS (intE 3) nilS)) (tgC 9) (townC (callN 30))) b) ⟨[x0, x1, some (.ref tr), some (.ref si), y4, y5, y6, y7, y8, y9, y10, some (.int (whl (tbl ns))), some (.ref rd), some (.int (com (tbl ns) (sst ns) : Nat)), y14, some (.ref en), y16, y17, y18, y19], CL⟩ σ) P := by
  refine WS.asgL (WR.listE (WR.consS (WR.intE (WR.consS (WR.intE (WR.nilS ⟨by simp, ?_⟩))))))
  simp only [setLo, List.set_cons_succ, List.set_cons_zero]
  have g1 := getElem?_len σ (.list [.int 0, .int 0])
  have K1 := Keep.app (fun _ => False) σ [.list [.int 0, .int 0]]
  obtain ⟨o9, h9⟩ := hG.w.pa.ce 9 (by omega)
  obtain ⟨o5, h5⟩ := hG.w.pa.ce 5 (by omega)
  have hc := hG.w.low.c
  have l1 : (σ ++ [O.list [.int 0, .int 0]]).length = σ.length + 1 := by simp
  have h91 := K1.getF h9
  have h51 := K1.getF h5
  generalize σ ++ [O.list [.int 0, .int 0]] = σ1 at *
  have g4 := getElem?_len σ1 (.rng 0 3)
  have K4 := K1.addF (Keep.app (fun _ => False) σ1 [.rng 0 3])
  refine WS.consB ?_
  refine WS.forS (a := .ref σ1.length) (σ1 := σ1 ++ [.rng 0 3]) (kd := .rng 0) (len := 3) rfl (kd_rng g4 rfl rfl rfl) (.inl rfl)
    (fun j lo σ' => σ'[σ1.length]? = some (.rng 0 3) ∧ (∃ y8 y18 y19, lo = [x0, x1, some (.ref tr), some (.ref si), y4, y5, y6, y7, y8, y9, y10, some (.int (whl (tbl ns))), some (.ref rd), some (.int (com (tbl ns) (sst ns) : Nat)), y14, some (.ref en), y16, some (.ref σ.length), y18, y19]) ∧
      Keep (S95 σ.length) σ σ' ∧ (∃ o, σ'[9]? = some (.cell o)) ∧ (∃ o, σ'[5]? = some (.cell o)) ∧ ∃ a b : Nat, σ'[σ.length]? = some (.list [.int (a : Nat), .int (b : Nat)]) ∧ a = ((List.range j).map fun t => R3.KK (tbl ns) (sst ns) t * lane (tbl ns t) 2).sum ∧ b = ((List.range j).map fun t => R3.KK (tbl ns) (sst ns) t * lane (tbl ns t) 3).sum) ?_ ?_ ?_ ?_
  · exact ⟨g4, ⟨_, _, _, rfl⟩, K4.weak fun _ h => h.elim, ⟨_, K4.getF h9⟩, ⟨_, K4.getF h5⟩, 0, 0, get_app g1, rfl, rfl⟩
  · rintro j lo σ' ⟨g, -⟩
    exact kd_rng g rfl rfl rfl
  · rintro j lo σ' hj ⟨g, ⟨z8, z18, z19, rfl⟩, K, ⟨p9, q9⟩, ⟨p5, q5⟩, a, b', hgl, ha, hb'⟩
    refine ⟨.int j, _, σ'.set 9 (.cell (some (.int j))), ?_, tgC_eq (k := 9) rfl q9, ?_⟩
    · rw [it_rng g, Int.zero_add]
    have K9' : Keep (· = 9) σ' (σ'.set 9 (.cell (some (.int j)))) := Keep.set (S := (· = 9)) q9 rfl rfl
    have c9 := get_set (o' := .cell (some (.int j))) q9
    have g9 := K9'.getX g rfl
    have gl9 := K9'.get hgl (by show ¬ σ.length = 9; omega)
    have c5 := K9'.get q5 (by show ¬ 5 = 9; omega)
    have K9 : Keep (S95 σ.length) σ (σ'.set 9 (.cell (some (.int j)))) := K.then (K9'.weak fun i hi => .inl hi)
    generalize σ'.set 9 (.cell (some (.int j))) = σ2 at *
    refine (chk_town s hG hj K9 (Nat.le_refl _) c9 ⟨_, c5⟩ hn gl9).mono ?_
    rintro fl lo' σ3 ⟨rfl, ⟨w8, w18, w19, rfl⟩, Kt, ⟨r5, t5⟩, hg⟩
    refine ⟨Kt.getX g9 rfl, ⟨_, _, _, rfl⟩, K9.then (Kt.weak fun i hi => ?_), ⟨_, Kt.get c9 (by show ¬ (9 = 5 ∨ 9 = σ.length); omega)⟩, ⟨_, t5⟩, _, _, hg, ?_, ?_⟩
    · rcases hi with hi | hi
      · exact .inr (.inl hi)
      · exact .inr (.inr (by omega))
    · rw [map_succ, List.sum_append, ha]; simp
    · rw [map_succ, List.sum_append, hb']; simp
  · rintro lo σ' ⟨-, ⟨z8, z18, z19, rfl⟩, K, q9, q5, a, b', hgl, ha, hb'⟩
    refine hb σ' σ.length z8 z18 z19 (hG.keep s (Nat.le_refl _) K q9 q5) ?_
    rw [hgl, ha, hb']
    simp [List.range_succ, Nat.add_assoc]
end L3
end Mine

end
noncomputable section
open PySem PySem.W PyProof.Rows
set_option linter.unusedVariables false
set_option linter.unusedSimpArgs false
set_option autoImplicit false
set_option Elab.async false
set_option maxRecDepth 100000
set_option maxHeartbeats 1000000
namespace Mine
namespace L3
open R3 (lane outl U Law Acy upd whl cof com net NN Inv)
variable {ns : List Int} {nu la ro to tr si : Nat} {D : Nat → TD} {rw n : Nat → Nat}
theorem segH (s : Sta ns nu la ro to tr si D rw) {σ : St} {ou rd bf en gl : Nat} {n0 : Nat → Nat} {ends : List Nat} (hG : GW ns σ nu la ro to tr si D rw n n0 ou rd bf en ends) {g2 g3 : Nat} (hgl : σ[gl]? = some (.list [.int (g2 : Nat), .int (g3 : Nat)])) (e2 : ends.count 2 = g2) (e3 : ends.count 3 = g3) (hn : ∀ t, n t ≤ 300)
    {x0 x1 y4 y5 y6 y7 y8 y9 y10 y11 y12 y13 y14 y16 y18 y19 : Option V} :
    WS (consL (ifS (truE (cmpE T (callN 30) .ne (listE (consS (lmE countV (locE 15) (consS (intE 2) nilS)) (consS (lmE countV (locE 15) (consS (intE 3) nilS)) nilS))) (locE 17)))
 (consL (retS (boolE false))
 nilL)
 nilL)
 (consL (retS (cmpE T (callN 30) .eq (compE T false (biE rangeV (consS (intE 3) nilS)) 0 1 [6, 7, 2] (tgC 0) none (compE T false (biE rangeV (consS (biE (lenV T) (consS (subE T (celE 1) (celE 0)) nilS)) nilS)) 1 0 [2, 0, 3] (tgL 0) none (subE T (subE T (celE 0) (celE 1)) (binE .mod (locE 0) (subE T (celE 2) (celE 1)))))) (celE 6)))
 nilL) ⟨[x0, x1, some (.ref tr), some (.ref si), y4, y5, y6, y7, y8, y9, y10, y11, y12, y13, y14, some (.ref en), y16, some (.ref gl), y18, y19], CL⟩ σ) fun fl _ _ => fl = .ret (.bool true) := by
  have W := hG.w
  have iv : intsV (ends.map fun e : Nat => V.int (e : Nat)) = some (ends.map fun e : Nat => (e : Int)) := by
    have := intsV_map (ends.map fun e : Nat => (e : Int))
    rw [List.map_map] at this
    exact this
  have c2 : (ends.map fun e : Nat => (e : Int)).count 2 = g2 := by rw [← e2]; exact count_cast ends 2
  have c3 : (ends.map fun e : Nat => (e : Int)).count 3 = g3 := by rw [← e3]; exact count_cast ends 3
  refine WS.ifF (WR.truE (WR.cmpE (WR.listE (WR.consS (WR.lmE (WR.locE rfl ⟨by simp only [listAtV, hG.e], WR.consS (WR.intE (WR.nilS ?_))⟩))))))
  simp only [countV, hG.e, iv, Option.map_some, WR.ok, c2]
  refine WR.consS (WR.lmE (WR.locE rfl ⟨by simp only [listAtV, hG.e], WR.consS (WR.intE (WR.nilS ?_))⟩))
  simp only [countV, hG.e, iv, Option.map_some, WR.ok, c3]
  refine WR.nilS ⟨by simp, WR.locE rfl ?_⟩
  have q1 := getElem?_len σ (.list [.int (g2 : Nat), .int (g3 : Nat)])
  have q2 := get_app (τ := [.list [.int (g2 : Nat), .int (g3 : Nat)]]) hgl
  have K1 := Keep.app (fun _ => False) σ [.list [.int (g2 : Nat), .int (g3 : Nat)]]
  generalize σ.length = p1 at *
  generalize hσ1 : σ ++ [.list [.int (g2 : Nat), .int (g3 : Nat)]] = σ1 at *
  have dq : deq p1 gl σ1 = some true := by
    unfold deq
    simp only [q1, q2, intsV, Option.map_some, decide_true]
  simp only [cmpV, dq, Option.map_some, WR.ok, truV, Bool.not_true, true_and]
  refine WS.nilCons.2 ?_
  -- the answers are the rounds over and over
  have W1 := W.keepF s K1
  have x1 := hG.x.keep K1 (fun h => h) (fun h => h) (fun h => h) (fun h => h) (fun h => h) (fun h => h)
  clear hσ1
  have g4 := getElem?_len σ1 (.rng 0 3)
  have K4 := Keep.app (fun _ => False) σ1 [.rng 0 3]
  have c4 := getElem?_len (σ1 ++ [.rng 0 3]) (.cell none)
  have K5 := K4.addF (Keep.app (fun _ => False) (σ1 ++ [.rng 0 3]) [.cell none])
  have g5 := get_app (τ := [.cell none]) g4
  have lc : σ1.length < (σ1 ++ [O.rng 0 3]).length := by simp
  refine WS.retS (WR.cmpE ?_)
  refine WR.compE (σ1 := σ1 ++ [.rng 0 3]) (a := .ref σ1.length) (kd := .rng 0) (len := 3) rfl (kd_rng g4 rfl rfl rfl) (.inl rfl)
    (fun j lo2 σ' ys => Keep (· = (σ1 ++ [O.rng 0 3]).length) ((σ1 ++ [.rng 0 3]) ++ [.cell none]) σ' ∧ (∃ o, σ'[(σ1 ++ [O.rng 0 3]).length]? = some (.cell o)) ∧ All2 (RowAt σ') ys ((List.range j).map fun t => (List.range (n t)).map fun k => (D t).ans k)) ?_ ?_ ?_ ?_
  · exact ⟨Keep.refl _ _, ⟨_, c4⟩, trivial⟩
  · rintro j lo2 σ' ys ⟨K, -, -⟩
    exact kd_rng (K.getX g5 rfl) rfl rfl rfl
  · rintro j lo2 σ' ys hj ⟨K, ⟨o, ho⟩, hys⟩
    generalize (σ1 ++ [O.rng 0 3]).length = c at *
    generalize (σ1 ++ [O.rng 0 3]) ++ [.cell none] = σ5 at *
    have hcl : (List.range 1).map (c + ·) ++ [6, 7, 2].map (fun j => ((CL : List Nat)[j]?).getD 0) = [c, 6, 7, 2] := rfl
    refine ⟨by rw [hys.length, List.length_map, List.length_range]; omega, .int j, lo2, σ'.set c (.cell (some (.int j))), ?_, tgC_eq (k := c) rfl ho, ?_⟩
    · rw [it_rng (K.getX g5 rfl), Int.zero_add]
    refine WR.ok.2 ?_
    rw [if_pos rfl]
    have Kc : Keep (· = c) σ' (σ'.set c (.cell (some (.int j)))) := Keep.set (S := (· = c)) ho rfl rfl
    have K6 := K.then Kc
    have c6 := get_set (o' := .cell (some (.int j))) ho
    have hy6 := hys.imp fun a b (r : RowAt σ' a b) => (r.keep Kc (fun i _ e => by
      have e : i = c := e
      subst e
      obtain ⟨i', e', hi'⟩ := r
      have : i' = i := by rename_i h; rw [h] at e'; cases e'; rfl
      subst this
      rw [ho] at hi'; cases hi'))
    generalize σ'.set c (.cell (some (.int j))) = σ6 at *
    have old : ∀ i o, σ1[i]? = some o → σ6[i]? = some o := fun i o e => K6.get (K5.getF e) (by show ¬ i = c; have := lt_of_get e; omega)
    rw [hcl]
    have hnj := hn j
    have g7 := getElem?_len σ6 (.rng 0 (n j : Nat))
    have K7 := Keep.app (fun _ => False) σ6 [.rng 0 (n j : Nat)]
    have er : biE rangeV (consS (biE (lenV T) (consS (subE T (celE 1) (celE 0)) nilS)) nilS) ⟨lo2, [c, 6, 7, 2]⟩ σ6 = some (.ok (.ref σ6.length) (σ6 ++ [.rng 0 (n j : Nat)])) := by
      have : WR (biE (lenV T) (consS (subE T (celE 1) (celE 0)) nilS) ⟨lo2, [c, 6, 7, 2]⟩ σ6) fun v σ' => v = .int (n j : Nat) ∧ σ' = σ6 := by
        refine WR.biE (WR.consS (WR.subE (WR.celE (k := 6) rfl (old _ _ W1.pa.c6) (WR.celE (k := c) rfl c6 (WR.getL (old _ _ W1.trio.to) j rfl (pick3 (fun t => V.ref (D t).m) hj) (WR.nilS (WR.lenL (old _ _ (W1.trio.t j hj).an) ⟨?_, rfl⟩)))))))
        rw [List.length_map, List.length_range]
      obtain ⟨v, σ', e1, rfl, rfl⟩ := this
      rw [biE, consS]
      simp only [e1, bindR, nilS, rangeV]
    have hcl2 : (List.range 0).map (σ6.length + ·) ++ [2, 0, 3].map (fun j => (([c, 6, 7, 2] : List Nat)[j]?).getD 0) = [7, c, 2] := rfl
    refine WR.compE (kd := .rng 0) (len := n j) er (kd_rng g7 rfl (small_of (by omega) (by omega)) (by omega)) (.inl rfl)
      (fun k lo3 σ'' zs => Keep (fun _ => False) (σ6 ++ [.rng 0 (n j : Nat)]) σ'' ∧ lo3.length = 1 ∧ zs = ((List.range k).map fun k => (D j).ans k).map .int) ?_ ?_ ?_ ?_
    · exact ⟨by simpa using Keep.refl _ _, rfl, rfl⟩
    · rintro k lo3 σ'' zs ⟨K', -, -⟩
      exact kd_rng (K'.getF g7) rfl (small_of (by omega) (by omega)) (by omega)
    · rintro k lo3 σ'' zs hk ⟨K', hlo3, rfl⟩
      obtain ⟨z0, rfl⟩ : ∃ z0, lo3 = [z0] := List.length_eq_one_iff.1 hlo3
      refine ⟨by simp; omega, .int k, [some (.int k)], σ'', ?_, rfl, ?_⟩
      · rw [it_rng (K'.getF g7), Int.zero_add]
      refine WR.ok.2 ?_
      rw [if_pos rfl]
      have tc : σ''[c]? = some (.cell (some (.int j))) := K'.getF (K7.getF c6)
      have oldd : ∀ i o, σ1[i]? = some o → σ''[i]? = some o := fun i o e => K'.getF (K7.getF (old i o e))
      have o23 := R3.out23 _ (tbl_lt ns j)
      have ho3 : ((List.range 3).map fun t => V.int (outl (tbl ns t) : Nat))[j]? = some (.int (outl (tbl ns j) : Nat)) := by rw [List.getElem?_map, List.getElem?_range hj]; rfl
      have hlen := (s.dt j hj).len
      have hlt : k % outl (tbl ns j) < (D j).R.length := by rw [hlen]; exact Nat.mod_lt _ (by omega)
      have hR : ((D j).R.map fun p => V.int p.2)[k % outl (tbl ns j)]? = some (.int ((D j).ans k)) := by
        rw [List.getElem?_map, List.getElem?_eq_getElem hlt]
        unfold TD.ans
        rw [hlen, List.getD_eq_getElem?_getD, List.getElem?_eq_getElem hlt]
        rfl
      have em : (k : Int).fmod (outl (tbl ns j) : Int) = ((k % outl (tbl ns j) : Nat) : Int) := by rw [Int.fmod_eq_emod_of_nonneg _ (by omega)]; rfl
      refine WR.subE (WR.subE (WR.celE (k := 7) rfl (oldd _ _ W1.pa.c7) (WR.celE (k := c) rfl tc (WR.getL (oldd _ _ W1.hro) j rfl (pick3 (fun t => V.ref (rw t)) hj) ?_))))
      refine WR.binE (WR.locE rfl (WR.subE (WR.celE (k := 2) rfl (oldd _ _ x1.c2) (WR.celE (k := c) rfl tc (WR.getL (oldd _ _ x1.hou) j rfl ho3 (WR.mod (by omega) ?_))))))
      rw [em]
      refine WR.getL (oldd _ _ (W1.rws j hj)) (k % outl (tbl ns j)) rfl hR ⟨K', rfl, ?_⟩
      rw [map_succ, List.map_append]; rfl
    · rintro lo3 σ'' zs ⟨K', -, rfl⟩
      have K8 := (K7.addF K').addF (Keep.app (fun _ => False) σ'' [.list (((List.range (n j)).map fun k => (D j).ans k).map .int)])
      refine ⟨K6.addF K8, ⟨_, K8.getF c6⟩, ?_⟩
      rw [map_succ (fun t => (List.range (n t)).map fun k => (D t).ans k) j]
      exact All2.append (hy6.imp fun a b r => r.keep K8 (fun _ _ h => h)) (show All2 _ [_] [_] from ⟨⟨_, rfl, getElem?_len _ _⟩, trivial⟩)
  rintro lo2 σ2 ys ⟨K, ⟨o, ho⟩, hys⟩
  generalize (σ1 ++ [O.rng 0 3]).length = c at *
  generalize (σ1 ++ [O.rng 0 3]) ++ [.cell none] = σ5 at *
  have KF : Keep (fun _ => False) σ1 σ2 := ((K5.weak (S' := (· = c)) (fun _ h => h.elim)).then K).of_new fun i hi e => by have : i = c := e; omega
  have K9 := Keep.app (fun _ => False) σ2 [.list ys]
  have g9 := getElem?_len σ2 (.list ys)
  have hy9 := hys.imp fun a b r => r.keep K9 (fun _ _ h => h)
  have W2 := W1.keepF s (KF.addF K9)
  generalize σ2.length = yl at *
  generalize σ2 ++ [.list ys] = σ3 at *
  refine WR.celE (k := 6) rfl W2.pa.c6 ?_
  have ht : All2 (RowAt σ3) [.ref (D 0).m, .ref (D 1).m, .ref (D 2).m] ((List.range 3).map fun t => (List.range (n t)).map fun k => (D t).ans k) := by
    have f : ∀ t, t < 3 → RowAt σ3 (.ref (D t).m) ((List.range (n t)).map fun k => (D t).ans k) := fun t ht => ⟨_, rfl, by rw [(W2.trio.t t ht).an, List.map_map]; rfl⟩
    exact ⟨f 0 (by omega), f 1 (by omega), f 2 (by omega), trivial⟩
  have dq2 : deq yl to σ3 = some true := by
    have i2 := intssV_ok ht
    have i1 := intssV_ok hy9
    have n2 : intsV ([.ref (D 0).m, .ref (D 1).m, .ref (D 2).m] : List V) = none := rfl
    unfold deq
    simp only [g9, W2.trio.to, n2]
    cases intsV ys with
    | none => simp only [i1, i2, decide_true]
    | some a => simp only [i1, i2, decide_true]
  simp only [cmpV, g9, dq2, Option.map_some, WR.ok]
end L3
end Mine

end
noncomputable section
open PySem PySem.W PyProof.Rows
set_option linter.unusedVariables false
set_option linter.unusedSimpArgs false
set_option autoImplicit false
set_option Elab.async false
set_option maxRecDepth 100000
set_option maxHeartbeats 4000000
namespace Mine
namespace L3
theorem law_runs (sa : Addr) (ns : List Int) (hl : ns.length ≤ 63) : WS (ev_law sa ns (callN 30) ⟨[some (.glob sa), none, none, none, none, none, none, none, none, none, none, none, none, none, none, none, none, none, none, none], CL⟩ (List.replicate 12 (.cell none))) fun fl _ _ => fl = .ret (.bool true) := by
  unfold ev_law
  refine segA1 (x1 := none) (x2 := none) (x3 := none) sa ns hl (callN 30) rfl ?_
  intro σ1 nu C1 a11 anu
  refine segA2 sa ns (callN 30) C1 a11 anu ?_
  intro σ2 la ro to tr si h2
  refine segB h2 ?_
  intro σ3 D rw bb y4 y5 y6 y7 y8 y9 hO
  obtain ⟨s, W3⟩ := world_of hO
  have l := law_of s.dt
  refine segC s W3 ?_
  intro σ4 n4 z8 W4 hn4 hn4'
  have a4 := acy_goal l hn4
  refine segD s W4 a4 (fun t => ?_) ?_
  · rcases Nat.lt_or_ge t 3 with h | h
    · exact (hn4 t h).2.1
    · rw [hn4' t h]; omega
  intro σ5 n5 z10 W5 a5 hn5
  refine segE1 s W5 ?_
  intro σ6 ou W6 h63 h62 hou mou
  refine segE2 s W6 h63 h62 hou ?_
  intro σ7 ne K7 W7 h71 hne
  obtain ⟨o1, q1⟩ := W6.pa.ce 1 (by omega)
  have h73 := K7.get h63 (by show ¬ 3 = 1; omega)
  have h72 := K7.get h62 (by show ¬ 2 = 1; omega)
  have hou7 := K7.get hou (ne_of_get hou q1 (by simp))
  refine segE3 s W7 h73 h71 hne ?_
  intro σ8 rd z14 K8 W8 lrd hrd
  have hc := W7.low.c
  obtain ⟨o9, q9⟩ := W7.pa.ce 9 (by omega)
  have lou := lt_of_get hou7
  have nou := ne_of_get hou7 q9 (by simp)
  have h83 := K8.get h73 (by show ¬ (3 = 9 ∨ σ7.length ≤ 3); omega)
  have h82 := K8.get h72 (by show ¬ (2 = 9 ∨ σ7.length ≤ 2); omega)
  have hou8 := K8.get hou7 (by show ¬ (ou = 9 ∨ σ7.length ≤ ou); omega)
  have mrd : ¬ Mut D rd := fun h => by have := mut_lt W7 rd h; omega
  refine segF1 s W8 h83 h82 hou8 hrd ?_
  intro σ9 bf W9 hx mbf lbf
  refine segF2 s W9 hx ⟨mou, mrd, mbf⟩ a5 hn5 ?_
  intro σ10 en n10 ends w10 w16 W10 hx10 he hi hn10 men
  have fin := hi.fin l (sst_lt ns) a5
  refine segG s ⟨W10, hx10, he⟩ fin ?_
  intro σ11 gl w8 w18 w19 hG hgl
  exact segH s hG hgl (hi.ends l (sst_lt ns) a5 (by omega) (by omega)) (hi.ends l (sst_lt ns) a5 (by omega) (by omega)) hn10
theorem runs (sa : Addr) (ns : List Int) (hl : ns.length ≤ 63) : Runs sa ns := by
  have h : WR (runF full_law pl_law pc_law (ev_law sa ns (callN lvl)) [.glob sa] []) fun v _ => v = .bool true := by
    refine WR.runF' (lo := [some (.glob sa), none, none, none, none, none, none, none, none, none, none, none, none, none, none, none, none, none, none, none]) (cl := CL) (σ' := List.replicate 12 (.cell none)) rfl rfl rfl rfl ?_
    refine (law_runs sa ns hl).mono ?_
    rintro fl lo σ rfl
    rfl
  obtain ⟨v, σ, e, rfl⟩ := h
  exact ⟨σ, e⟩
end L3
end Mine

end
theorem PySem.Challenge.cw_ez5009_03_holds : PySem.Challenge.rw_ez5009_03.Holds :=
  Mine.L3.head Mine.L3.runs
