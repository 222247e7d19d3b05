import PyProof.Rows.All
import Wide.All
import OpenK.AllK
import Wide.FinOn
import Lean
import PySem.Challenge.RW_of0005_01
open PySem PySem.W PyProof.Rows PySem.Calls
open Sem (wp)
set_option Elab.async false
set_option linter.all false
set_option maxRecDepth 100000
namespace Mine

/-- what is known of an object: never its slots, never a record -/
inductive Sh where
  | list (vs : List Value)
  | tup (vs : List Value)
  | cell (v : Option Value)
  | ns (m : Str → Option Value)
  | fn (fd : FuncData)
  | inst (C d : Addr)
  | raw (o : Obj)
noncomputable def NF (o : Obj) : Prop := ∀ vs, o.data ≠ .fields vs
noncomputable def Sh.Is (o : Obj) : Sh → Prop
  | .list vs => o.cls = .type "list" ∧ o.dict = none ∧ ∃ n, o.data = .seq vs.toArray n
  | .tup vs => o.cls = .type "tuple" ∧ ∃ n, o.data = .seq vs.toArray n
  | .cell v => o.data = .cell v
  | .ns m => ∃ es ep, o.data = .dict es ep ∧ StrKeys es ∧ ∀ name, nsFind es name = m name
  | .fn fd => o.cls = .type "function" ∧ o.data = .func fd
  | .inst C d => o.cls = .ref C ∧ o.dict = some d ∧ o.data = .plain
  | .raw o' => NF o' ∧ o.cls = o'.cls ∧ o.dict = o'.dict ∧ o.data = o'.data
noncomputable def Sh.At (sh : Sh) (h : Heap) (a : Addr) : Prop := ∃ o, h.get? a = some o ∧ sh.Is o
theorem Sh.Is.nf {sh : Sh} {o : Obj} (x : sh.Is o) : NF o := by
  intro vs q
  cases sh with
  | list => obtain ⟨_, _, n, e⟩ := x; rw [q] at e; cases e
  | tup => obtain ⟨_, n, e⟩ := x; rw [q] at e; cases e
  | cell => exact absurd (q.symm.trans x) (by intro h; cases h)
  | ns => obtain ⟨_, _, e, _⟩ := x; rw [q] at e; cases e
  | fn => obtain ⟨_, e⟩ := x; rw [q] at e; cases e
  | inst => obtain ⟨_, _, e⟩ := x; rw [q] at e; cases e
  | raw o' => obtain ⟨n, _, _, e⟩ := x; exact n vs (e.symm.trans q)
theorem Sh.Is.slots {sh : Sh} {o : Obj} (x : sh.Is o) (sl) : sh.Is { o with slots := sl } := by
  cases sh <;> exact x
theorem Sh.At.keep {sh : Sh} {h h' : Heap} {a : Addr} (x : sh.At h a) (k : ∀ o, h.get? a = some o → h'.get? a = some o) : sh.At h' a :=
  let ⟨o, ho, i⟩ := x; ⟨o, k o ho, i⟩
theorem Sh.At.up {sh : Sh} {h h' : Heap} {a : Addr} (x : sh.At h a) (k : h.UpToSlots h') : sh.At h' a :=
  let ⟨o, ho, i⟩ := x; let ⟨sl, e⟩ := k a o ho i.nf; ⟨_, e, i.slots sl⟩
theorem Sh.At.lt {sh : Sh} {h : Heap} {a : Addr} (x : sh.At h a) : a < h.objs.size := let ⟨_, ho, _⟩ := x; Heap.lt_size ho
theorem Sh.At.list {h : Heap} {a : Addr} {vs : List Value} (x : (Sh.list vs).At h a) : h.IsList a vs.toArray := let ⟨o, ho, c, _, n, d⟩ := x; ⟨o, ho, c, n, d⟩
theorem Sh.At.tup {h : Heap} {a : Addr} {vs : List Value} (x : (Sh.tup vs).At h a) : h.IsTuple a vs.toArray := let ⟨o, ho, c, n, d⟩ := x; ⟨o, ho, c, n, d⟩
theorem Sh.At.cell {h : Heap} {a : Addr} {v : Option Value} (x : (Sh.cell v).At h a) : h.IsCell a v := let ⟨o, ho, d⟩ := x; ⟨o, ho, d⟩
theorem Sh.At.ns {h : Heap} {a : Addr} {m : Str → Option Value} (x : (Sh.ns m).At h a) : h.Ns a m := let ⟨o, ho, es, ep, d, k, f⟩ := x; ⟨o, es, ep, ho, d, k, f⟩
theorem Sh.At.noDict {h : Heap} {a : Addr} {vs : List Value} (x : (Sh.list vs).At h a) : h.NoDictAt (.ref a) := let ⟨o, ho, _, d, _⟩ := x; ⟨o, ho, d⟩
theorem at_tup {h : Heap} {a : Addr} {vs : List Value} (x : h.IsTuple a vs.toArray) : (Sh.tup vs).At h a := let ⟨o, ho, c, n, d⟩ := x; ⟨o, ho, c, n, d⟩
theorem at_cell {h : Heap} {a : Addr} {v : Option Value} (x : h.IsCell a v) : (Sh.cell v).At h a := let ⟨o, ho, d⟩ := x; ⟨o, ho, d⟩
theorem at_ns {h : Heap} {a : Addr} {m : Str → Option Value} (x : h.Ns a m) : (Sh.ns m).At h a := let ⟨o, es, ep, ho, d, k, f⟩ := x; ⟨o, ho, es, ep, d, k, f⟩
theorem dict_mapSeq (o : Obj) (f) : (o.mapSeq f).dict = o.dict := by obtain ⟨c, d, dt, sl⟩ := o; cases dt <;> rfl
section
variable {prog : Program} {w : World} {A : Around} {E : Value → Shared → Prop} {s : Shared}
theorem append_at {l : Addr} {vs : List Value} {x : Value} {Q : Value → Shared → Prop} (hl : (Sh.list vs).At s.heap l)
    (hQ : ∀ h', (Sh.list (vs ++ [x])).At h' l → Heap.SameBut l s.heap h' → Q .none { s with heap := h' }) (hsz : vs.length ≤ sizeLine := by size_fits) :
    wpAny (model prog w) A (call (.builtin "list.append") [.ref l, x]) Q E s := by
  obtain ⟨o, ho, hc, hd, n, hdt⟩ := hl
  refine wpAny_call_entry slot_list_append ⟨_, ho, hc⟩ entry_list_append ?_ (args_list_append _ _)
  show wpAny _ _ (updateSeq l (·.push x) >>= fun _ => ret .none) _ _ s
  refine wpAny_bind ?_
  refine wpAny_updateSeq ho hdt (wpAny_pure ⟨.none, rfl, hQ _ ?_ (Heap.SameBut.update ..)⟩) (by simpa using hsz)
  obtain ⟨n', hn'⟩ := Obj.data_mapSeq hdt (·.push x)
  exact ⟨_, Heap.get?_update_self _ ho (Obj.isFreed_of_seq hn'), by rw [Obj.cls_mapSeq]; exact hc, by rw [dict_mapSeq]; exact hd, n', by rw [hn']; simp⟩
end
/-- a frozen view -/
noncomputable abbrev Fz := Addr → Option Sh
noncomputable def Fz.le (I J : Fz) : Prop := ∀ a sh, I a = some sh → J a = some sh
theorem Fz.up {I J : Fz} {a : Addr} {sh : Sh} (h : I.le J) (q : I a = some sh) : J a = some sh := h a sh q
theorem Fz.le.refl (I : Fz) : I.le I := fun _ _ e => e
theorem Fz.le.trans {I J K : Fz} (x : I.le J) (y : J.le K) : I.le K := fun a sh e => y a sh (x a sh e)
noncomputable def Fz.put (I : Fz) (a : Addr) (sh : Sh) : Fz := fun b => if b = a then some sh else I b
theorem Fz.put_self (I : Fz) (a : Addr) (sh : Sh) : I.put a sh a = some sh := if_pos rfl
theorem Fz.put_ne (I : Fz) {a b : Addr} (sh : Sh) (h : b ≠ a) : I.put a sh b = I b := if_neg h
theorem Fz.le_put {I : Fz} {a : Addr} (sh : Sh) (h : I a = none) : I.le (I.put a sh) := fun b sh' e => by
  rw [Fz.put_ne I sh (fun q => by rw [q, h] at e; cases e)]; exact e
noncomputable def Fz.nil : Fz := fun _ => none
mutual
inductive DatI (I : Fz) : Value → Dat → Prop
  | none : DatI I .none .none
  | bool (b : Bool) : DatI I (.bool b) (.bool b)
  | int (i : Int) (t : Tok) : DatI I (.int i t) (.int i)
  | str (x : Str) (t : Tok) : DatI I (.str x t) (.str x)
  | bytes (b : Array UInt8) (t : Tok) : DatI I (.bytes b t) (.bytes b)
  | tuple {a : Addr} {vs : List Value} {ds : List Dat} : I a = some (.tup vs) → DatIs I vs ds → DatI I (.ref a) (.tuple ds)
  | list {a : Addr} {vs : List Value} {ds : List Dat} : I a = some (.list vs) → DatIs I vs ds → DatI I (.ref a) (.list ds)
inductive DatIs (I : Fz) : List Value → List Dat → Prop
  | nil : DatIs I [] []
  | cons {v : Value} {vs : List Value} {d : Dat} {ds : List Dat} : DatI I v d → DatIs I vs ds → DatIs I (v :: vs) (d :: ds)
end
mutual
theorem DatI.mono {I J : Fz} (k : I.le J) : ∀ {v : Value} {d : Dat}, DatI I v d → DatI J v d
  | _, _, .none => .none
  | _, _, .bool b => .bool b
  | _, _, .int i t => .int i t
  | _, _, .str x t => .str x t
  | _, _, .bytes b t => .bytes b t
  | _, _, .tuple h r => .tuple (k _ _ h) (DatIs.mono k r)
  | _, _, .list h r => .list (k _ _ h) (DatIs.mono k r)
theorem DatIs.mono {I J : Fz} (k : I.le J) : ∀ {vs : List Value} {ds : List Dat}, DatIs I vs ds → DatIs J vs ds
  | _, _, .nil => .nil
  | _, _, .cons h r => .cons (DatI.mono k h) (DatIs.mono k r)
end
section
variable {I : Fz} {v : Value} {d : Dat} {vs ws : List Value} {ds es : List Dat}
theorem DatIs.length (h : DatIs I vs ds) : vs.length = ds.length := by
  induction vs generalizing ds with
  | nil => cases h; rfl
  | cons v vs ih => cases h with | cons _ r => rw [List.length_cons, List.length_cons, ih r]
theorem DatIs.append (h : DatIs I vs ds) (k : DatIs I ws es) : DatIs I (vs ++ ws) (ds ++ es) := by
  induction vs generalizing ds with
  | nil => cases h; exact k
  | cons v vs ih => cases h with | cons h r => exact .cons h (ih r)
theorem DatIs.one (h : DatI I v d) : DatIs I [v] [d] := .cons h .nil
theorem DatIs.get (h : DatIs I vs ds) {k : Nat} (hv : vs[k]? = some v) : ∃ d, ds[k]? = some d ∧ DatI I v d := by
  induction vs generalizing ds k with
  | nil => cases hv
  | cons u vs ih =>
    cases h with
    | cons h r =>
      cases k with
      | zero => cases hv; exact ⟨_, rfl, h⟩
      | succ k => exact ih r hv
theorem DatIs.get' (h : DatIs I vs ds) {k : Nat} (hd : ds[k]? = some d) : ∃ v, vs[k]? = some v ∧ DatI I v d := by
  induction vs generalizing ds k with
  | nil => cases h; cases hd
  | cons u vs ih =>
    cases h with
    | cons h r =>
      cases k with
      | zero => cases hd; exact ⟨_, rfl, h⟩
      | succ k => exact ih r hd
theorem DatIs.drop (h : DatIs I vs ds) (n : Nat) : DatIs I (vs.drop n) (ds.drop n) := by
  induction n generalizing vs ds with
  | zero => exact h
  | succ n ih => cases h with
    | nil => simpa using DatIs.nil
    | cons h r => exact ih r
theorem DatIs.take (h : DatIs I vs ds) (n : Nat) : DatIs I (vs.take n) (ds.take n) := by
  induction n generalizing vs ds with
  | zero => simpa using DatIs.nil
  | succ n ih => cases h with
    | nil => simpa using DatIs.nil
    | cons h r => exact .cons h (ih r)
theorem DatIs.ints {ns : List Int} (h : DatIs I vs (ns.map .int)) : IntsAre vs ns := by
  induction ns generalizing vs with
  | nil => cases h; exact .nil
  | cons n ns ih => cases h with | cons h r => cases h; exact .cons _ _ (ih r)
theorem DatIs.of_ints {ns : List Int} (h : IntsAre vs ns) : DatIs I vs (ns.map .int) := by
  induction h with
  | nil => exact .nil
  | cons _ _ _ ih => exact .cons (.int _ _) ih
end
/-- what a frame starts with: what must be kept, the frozen view, the top -/
structure Ent where
  Z : Fz
  I : Fz
  top : Heap
/-- the ground: a heap that stays as it is, and the view at that time -/
structure Gd where
  h : Heap
  I : Fz
structure Bd (g : Gd) (e : Ent) (I : Fz) (L : Addr) (m : Str → Option Value) (mu : List (Addr × Sh)) (h : Heap) : Prop where
  tG : e.top.StaysIn g.h
  base : g.h.StaysIn h
  kz : ∀ a sh, e.Z a = some sh → sh.At h a
  gi : g.I.le I
  gf : ∀ a sh, I a = some sh → g.I a = none → g.h.get? a = none
  ei : e.I.le I
  ef : ∀ a sh, I a = some sh → e.I a = none → e.Z a = none
  sub : ∀ a sh, I a = some sh → sh.At h a
  ns : h.Ns L m
  zL : e.Z L = none
  gL : g.h.get? L = none
  iL : I L = none
  mus : ∀ p ∈ mu, p.2.At h p.1 ∧ p.1 ≠ L ∧ I p.1 = none ∧ g.h.get? p.1 = none ∧ e.Z p.1 = none
  nd : (mu.map (·.1)).Nodup
section
variable {g : Gd} {e : Ent} {I J : Fz} {L : Addr} {m m' : Str → Option Value} {mu : List (Addr × Sh)} {h h' : Heap}
/-- all that is known lies elsewhere -/
theorem Bd.moveBut (B : Bd g e I L m mu h) {X : Addr} (hG : g.h.get? X = none) (hZ : e.Z X = none) (hI : I X = none) (hL : L ≠ X) (hm : ∀ p ∈ mu, p.1 ≠ X) (k : ∀ b o, b ≠ X → h.get? b = some o → h'.get? b = some o) : Bd g e I L m mu h' :=
  { B with
    base := fun b o q => k b o (fun r => by rw [r, hG] at q; cases q) (B.base b o q)
    kz := fun a sh q => (B.kz a sh q).keep fun o => k a o (fun r => by rw [r, hZ] at q; cases q)
    sub := fun a sh q => (B.sub a sh q).keep fun o => k a o (fun r => by rw [r, hI] at q; cases q)
    ns := B.ns.at' fun o => k _ o hL
    mus := fun p hp => ⟨(B.mus p hp).1.keep fun o => k _ o (hm p hp), (B.mus p hp).2⟩ }
theorem Bd.store (B : Bd g e I L m mu h) (hn : h'.Ns L m') (hs : Heap.SameBut L h h') : Bd g e I L m' mu h' :=
  { B with
    base := fun b o q => (hs.2 b fun r => by rw [r, B.gL] at q; cases q).trans (B.base b o q)
    kz := fun a sh q => (B.kz a sh q).keep fun o ho => (hs.2 a fun r => by rw [r, B.zL] at q; cases q).trans ho
    sub := fun a sh q => (B.sub a sh q).keep fun o ho => (hs.2 a fun r => by rw [r, B.iL] at q; cases q).trans ho
    ns := hn
    mus := fun p hp => ⟨(B.mus p hp).1.keep fun o ho => (hs.2 _ (B.mus p hp).2.1).trans ho, (B.mus p hp).2⟩ }
/-- anything else that keeps all -/
theorem Bd.keep (B : Bd g e I L m mu h) (k : ∀ b o, h.get? b = some o → h'.get? b = some o) : Bd g e I L m mu h' :=
  { B with
    base := fun b o q => k b o (B.base b o q)
    kz := fun a sh q => (B.kz a sh q).keep fun o => k a o
    sub := fun a sh q => (B.sub a sh q).keep fun o => k a o
    ns := B.ns.keeps k
    mus := fun p hp => ⟨(B.mus p hp).1.keep fun o => k _ o, (B.mus p hp).2⟩ }
theorem Bd.push (B : Bd g e I L m mu h) (o : Obj) : Bd g e I L m mu (h.push o) := B.keep fun _ _ q => Heap.get?_push_of_some o q
/-- a new object is frozen -/
theorem Bd.freeze (B : Bd g e I L m mu h) {a : Addr} {sh : Sh} (ha : sh.At h a) (hI : I a = none) (hG : g.h.get? a = none) (hZ : e.Z a = none) (hL : a ≠ L) (hm : ∀ p ∈ mu, p.1 ≠ a) : Bd g e (I.put a sh) L m mu h :=
  { B with
    gi := B.gi.trans (Fz.le_put sh hI)
    gf := fun b sh' q hb => by
      by_cases r : b = a
      · rw [r]; exact hG
      · rw [Fz.put_ne I sh r] at q; exact B.gf b sh' q hb
    ei := B.ei.trans (Fz.le_put sh hI)
    ef := fun b sh' q hb => by
      by_cases r : b = a
      · rw [r]; exact hZ
      · rw [Fz.put_ne I sh r] at q; exact B.ef b sh' q hb
    sub := fun b sh' q => by
      by_cases r : b = a
      · subst r; rw [Fz.put_self] at q; cases q; exact ha
      · rw [Fz.put_ne I sh r] at q; exact B.sub b sh' q
    iL := by rw [Fz.put_ne I sh (Ne.symm hL)]; exact B.iL
    mus := fun p hp => ⟨(B.mus p hp).1, (B.mus p hp).2.1, by rw [Fz.put_ne I sh (hm p hp)]; exact (B.mus p hp).2.2.1, (B.mus p hp).2.2.2⟩ }
theorem Bd.none_of (B : Bd g e I L m mu h) {a : Addr} (ha : h.get? a = none) : I a = none := by
  cases q : I a with
  | none => rfl
  | some sh => obtain ⟨o, ho, _⟩ := B.sub a sh q; rw [ha] at ho; cases ho
theorem Bd.z_of (B : Bd g e I L m mu h) {a : Addr} (ha : h.get? a = none) : e.Z a = none := by
  cases q : e.Z a with
  | none => rfl
  | some sh => obtain ⟨o, ho, _⟩ := B.kz a sh q; rw [ha] at ho; cases ho
theorem Bd.g_of (B : Bd g e I L m mu h) {a : Addr} (ha : h.get? a = none) : g.h.get? a = none := by
  cases q : g.h.get? a with
  | none => rfl
  | some o => rw [B.base a o q] at ha; cases ha
theorem Bd.L_of (B : Bd g e I L m mu h) {a : Addr} (ha : h.get? a = none) : a ≠ L := fun q => by
  obtain ⟨o, _, _, ho, _⟩ := B.ns; rw [← q, ha] at ho; cases ho
theorem Bd.mu_of (B : Bd g e I L m mu h) {a : Addr} (ha : h.get? a = none) : ∀ p ∈ mu, p.1 ≠ a := fun p hp q => by
  obtain ⟨o, ho, _⟩ := (B.mus p hp).1; rw [q, ha] at ho; cases ho
theorem fresh (h : Heap) : h.get? h.objs.size = none := Heap.get?_none_of_le (Nat.le_refl _)
/-- push and freeze -/
theorem Bd.alloc (B : Bd g e I L m mu h) {o : Obj} {sh : Sh} (ho : sh.Is o) (hf : o.isFreed = false) : Bd g e (I.put h.objs.size sh) L m mu (h.push o) :=
  (B.push o).freeze ⟨o, Heap.get?_push_size h hf, ho⟩ (B.none_of (fresh h)) (B.g_of (fresh h)) (B.z_of (fresh h)) (B.L_of (fresh h)) (B.mu_of (fresh h))
/-- a new object is put among the mutable ones -/
theorem Bd.hold (B : Bd g e I L m mu h) {a : Addr} {sh : Sh} (ha : sh.At h a) (hI : I a = none) (hG : g.h.get? a = none) (hZ : e.Z a = none) (hL : a ≠ L) (hm : ∀ p ∈ mu, p.1 ≠ a) : Bd g e I L m ((a, sh) :: mu) h :=
  { B with
    mus := fun p hp => by
      rcases List.mem_cons.mp hp with rfl | hp
      · exact ⟨ha, hL, hI, hG, hZ⟩
      · exact B.mus p hp
    nd := by
      rw [List.map_cons, List.nodup_cons]
      refine ⟨fun q => ?_, B.nd⟩
      obtain ⟨p, hp, r⟩ := List.mem_map.mp q
      exact hm p hp r }
/-- push and keep it mutable -/
theorem Bd.allocM (B : Bd g e I L m mu h) {o : Obj} {sh : Sh} (ho : sh.Is o) (hf : o.isFreed = false) : Bd g e I L m ((h.objs.size, sh) :: mu) (h.push o) :=
  (B.push o).hold ⟨o, Heap.get?_push_size h hf, ho⟩ (B.none_of (fresh h)) (B.g_of (fresh h)) (B.z_of (fresh h)) (B.L_of (fresh h)) (B.mu_of (fresh h))
/-- a mutable one is changed -/
theorem Bd.upd (B : Bd g e I L m mu h) {a : Addr} {sh sh' : Sh} {pre post : List (Addr × Sh)} (hmu : mu = pre ++ (a, sh) :: post) (hs : ∀ b o, b ≠ a → h.get? b = some o → h'.get? b = some o) (ha : sh'.At h' a) : Bd g e I L m (pre ++ (a, sh') :: post) h' := by
  subst hmu
  have P := B.mus (a, sh) (by simp)
  have nd := B.nd
  rw [List.map_append, List.map_cons] at nd
  have hne : ∀ p ∈ pre ++ post, p.1 ≠ a := by
    intro p hp q
    have h1 := List.nodup_append.mp nd
    rcases List.mem_append.mp hp with hp | hp
    · exact h1.2.2 p.1 (List.mem_map_of_mem hp) a List.mem_cons_self q
    · exact (List.nodup_cons.mp h1.2.1).1 (q ▸ List.mem_map_of_mem (f := (·.1)) hp)
  exact { B with
    base := fun b o q => hs b o (fun r => by rw [r, P.2.2.2.1] at q; cases q) (B.base b o q)
    kz := fun b sh q => (B.kz b sh q).keep fun o => hs b o (fun r => by rw [r, P.2.2.2.2] at q; cases q)
    sub := fun b sh q => (B.sub b sh q).keep fun o => hs b o (fun r => by rw [r, P.2.2.1] at q; cases q)
    ns := B.ns.at' fun o => hs _ o (Ne.symm P.2.1)
    mus := fun p hp => by
      rcases List.mem_append.mp hp with hp | hp
      · have Q := B.mus p (List.mem_append_left _ hp)
        exact ⟨Q.1.keep fun o => hs _ o (hne p (List.mem_append_left _ hp)), Q.2⟩
      · rcases List.mem_cons.mp hp with rfl | hp
        · exact ⟨ha, P.2⟩
        · have Q := B.mus p (List.mem_append_right _ (List.mem_cons_of_mem _ hp))
          exact ⟨Q.1.keep fun o => hs _ o (hne p (List.mem_append_right _ hp)), Q.2⟩
    nd := by rw [List.map_append, List.map_cons]; exact nd }
/-- a mutable one is let go -/
theorem Bd.drop (B : Bd g e I L m mu h) {a : Addr} {sh : Sh} {pre post : List (Addr × Sh)} (hmu : mu = pre ++ (a, sh) :: post) : Bd g e I L m (pre ++ post) h ∧ ∀ p ∈ pre ++ post, p.1 ≠ a := by
  subst hmu
  have nd := B.nd
  rw [List.map_append, List.map_cons] at nd
  have h1 := List.nodup_append.mp nd
  have nd' : ((pre ++ post).map (·.1)).Nodup := by
    rw [List.map_append]
    exact List.nodup_append.mpr ⟨h1.1, (List.nodup_cons.mp h1.2.1).2, fun x hx y hy => h1.2.2 x hx y (List.mem_cons_of_mem _ hy)⟩
  have hm' : ∀ p ∈ pre ++ post, p ∈ pre ++ (a, sh) :: post := fun p hp => by
    rcases List.mem_append.mp hp with q | q
    · exact List.mem_append_left _ q
    · exact List.mem_append_right _ (List.mem_cons_of_mem _ q)
  refine ⟨{ B with mus := fun p hp => B.mus p (hm' p hp), nd := nd' }, fun p hp q => ?_⟩
  rcases List.mem_append.mp hp with hp | hp
  · exact h1.2.2 p.1 (List.mem_map_of_mem hp) a List.mem_cons_self q
  · exact (List.nodup_cons.mp h1.2.1).1 (q ▸ List.mem_map_of_mem (f := (·.1)) hp)
/-- a mutable one is frozen for good -/
theorem Bd.seal (B : Bd g e I L m mu h) {a : Addr} {sh : Sh} {pre post : List (Addr × Sh)} (hmu : mu = pre ++ (a, sh) :: post) : Bd g e (I.put a sh) L m (pre ++ post) h ∧ I.le (I.put a sh) := by
  have P := B.mus (a, sh) (by simp [hmu])
  obtain ⟨B', hn⟩ := B.drop hmu
  exact ⟨B'.freeze P.1 P.2.2.1 P.2.2.2.1 P.2.2.2.2 P.2.1 hn, Fz.le_put _ P.2.2.1⟩
/-- a callee that changes nothing has come back -/
structure Ret (I : Fz) (h h' : Heap) (J : Fz) : Prop where
  keep : h.StaysIn h'
  le : I.le J
  fr : ∀ a sh, J a = some sh → I a = none → h.get? a = none
  sub : ∀ a sh, J a = some sh → sh.At h' a
theorem Bd.after (B : Bd g e I L m mu h) (r : Ret I h h' J) : Bd g e J L m mu h' := by
  have B' := B.keep r.keep
  have no : ∀ a o, h.get? a = some o → I a = none → J a = none := fun a o ha hI => by
    cases q : J a with
    | none => rfl
    | some sh => rw [r.fr a sh q hI] at ha; cases ha
  have noS : ∀ a (sh : Sh), sh.At h a → I a = none → J a = none := fun a sh ⟨o, ho, _⟩ hI => no a o ho hI
  exact { B' with
    gi := B.gi.trans r.le
    gf := fun a sh q hI => by
      cases q' : I a with
      | none => exact B.g_of (r.fr a sh q q')
      | some sh' => exact B.gf a sh' q' hI
    ei := B.ei.trans r.le
    ef := fun a sh q hI => by
      cases q' : I a with
      | none => exact B.z_of (r.fr a sh q q')
      | some sh' => exact B.ef a sh' q' hI
    sub := r.sub
    iL := noS _ _ (at_ns B.ns) B.iL
    mus := fun p hp => ⟨(B'.mus p hp).1, (B.mus p hp).2.1, noS _ _ (B.mus p hp).1 (B.mus p hp).2.2.1, (B.mus p hp).2.2.2⟩ }
theorem Bd.enter {s : Shared} {I : Fz} {h₀ top : Heap} {m : Str → Option Value} (ht : top.StaysIn s.heap) (hI : ∀ a sh, I a = some sh → sh.At s.heap a) (hn : h₀.Ns s.heap.objs.size m) (hk : ∀ b o, s.heap.get? b = some o → h₀.get? b = some o) :
    Bd ⟨s.heap, I⟩ ⟨Fz.nil, I, top⟩ I s.heap.objs.size m [] h₀ where
  tG := ht
  base := hk
  kz := fun _ _ q => by cases q
  gi := Fz.le.refl _
  gf := fun a sh q hq => by rw [show I a = none from hq] at q; cases q
  ei := Fz.le.refl _
  ef := fun _ _ _ _ => rfl
  sub := fun a sh q => (hI a sh q).keep fun o => hk a o
  ns := hn
  zL := rfl
  gL := Heap.get?_none_of_le (Nat.le_refl _)
  iL := by
    cases q : I s.heap.objs.size with
    | none => rfl
    | some sh => exact absurd (hI _ sh q).lt (Nat.lt_irrefl _)
  mus := fun _ hp => nomatch hp
  nd := List.nodup_nil
theorem Bd.ret {s : Shared} {I J : Fz} {L : Addr} {e : Ent} (B : Bd ⟨s.heap, I⟩ e J L m mu h') : Ret I s.heap h' J := ⟨B.base, B.gi, B.gf, B.sub⟩
theorem Bd.tops (B : Bd g e I L m mu h) : e.top.StaysIn h := fun b o q => B.base b o (B.tG b o q)
/-- the ground under a turn: all but the frame's own -/
noncomputable def under (h : Heap) (L : Addr) (mu : List (Addr × Sh)) : Heap := hideAll h (L :: mu.map (·.1))
theorem under_get {a : Addr} {o : Obj} (q : h.get? a = some o) (hL : a ≠ L) (hm : ∀ p ∈ mu, p.1 ≠ a) : (under h L mu).get? a = some o :=
  hideAll_get _ q fun r => by
    rcases List.mem_cons.mp r with r | r
    · exact hL r
    · obtain ⟨p, hp, e⟩ := List.mem_map.mp r
      exact hm p hp e
theorem Bd.stays (B : Bd g e I L m mu h) : g.h.StaysIn (under h L mu) := fun b o q => under_get (B.base b o q) (fun r => by rw [r, B.gL] at q; cases q) fun p hp r => by rw [← r, (B.mus p hp).2.2.2.1] at q; cases q
theorem Bd.turn (B : Bd g e I L m mu h) : Bd ⟨under h L mu, I⟩ e I L m mu h :=
  { B with
    tG := fun b o q => B.stays b o (B.tG b o q)
    base := fun b o q => of_hideAll _ q
    gi := Fz.le.refl _
    gf := fun a sh q hq => by rw [show I a = none from hq] at q; cases q
    gL := hideAll_none _ List.mem_cons_self
    mus := fun p hp => ⟨(B.mus p hp).1, (B.mus p hp).2.1, (B.mus p hp).2.2.1, hideAll_none _ (List.mem_cons_of_mem _ (List.mem_map_of_mem hp)), (B.mus p hp).2.2.2.2⟩ }
/-- back to the ground before -/
theorem Bd.back {g' : Gd} (B' : Bd g' e J L m mu h) (t : e.top.StaysIn g.h) (k : g.h.StaysIn g'.h) (i : g.I.le g'.I) (f : ∀ a sh, g'.I a = some sh → g.I a = none → g.h.get? a = none) : Bd g e J L m mu h := by
  have no : ∀ a, g'.h.get? a = none → g.h.get? a = none := fun a ha => by
    cases q : g.h.get? a with
    | none => rfl
    | some o => rw [k _ _ q] at ha; cases ha
  exact { B' with
    tG := t
    base := fun b o q => B'.base b o (k b o q)
    gi := i.trans B'.gi
    gf := fun a sh q hq => by
      cases r : g'.I a with
      | none => exact no _ (B'.gf a sh q r)
      | some sh' => exact f a sh' r hq
    gL := no _ B'.gL
    mus := fun p hp => ⟨(B'.mus p hp).1, (B'.mus p hp).2.1, (B'.mus p hp).2.2.1, no _ (B'.mus p hp).2.2.2.1, (B'.mus p hp).2.2.2.2⟩ }
end
section
variable {M : Model} {A : Around} {α β : Type} {t : Sem α} {u : Sem β} {E : Value → Shared → Prop} {s : Shared}
/-- the posts behind names: the goals stay small -/
theorem opq1 {Q : α → Shared → Prop} (h : ∀ (Qt : α → Shared → Prop) (Et : Value → Shared → Prop), (∀ a s, Q a s → Qt a s) → (∀ x s, E x s → Et x s) → wpAny M A t Qt Et s) : wpAny M A t Q E s :=
  h Q E (fun _ _ x => x) fun _ _ x => x
theorem opq2 {Q : β → Shared → Prop} (h : ∀ (Qt : β → Shared → Prop) (Et : Value → Shared → Prop), (∀ a s, Q a s → Qt a s) → (∀ x s, E x s → Et x s) → wpAny M A t (fun _ s₂ => wpAny M A u Qt Et s₂) Et s) :
    wpAny M A t (fun _ s₂ => wpAny M A u Q E s₂) E s :=
  h Q E (fun _ _ x => x) fun _ _ x => x
end
/-- the text's own defs, by their place -/
noncomputable def fnBody (n : Nat) : List Stmt := match PySem.Challenge.pw_of0005_01.main.body[n]? with | some (.FunctionDef _ _ b _ _ _ _ _ _ _) => b | _ => []
noncomputable def fnName (n : Nat) : Str := match PySem.Challenge.pw_of0005_01.main.body[n]? with | some (.FunctionDef x _ _ _ _ _ _ _ _ _) => x | _ => Str.ofString ""
noncomputable def fnParams (n : Nat) : Arguments := match PySem.Challenge.pw_of0005_01.main.body[n]? with | some (.FunctionDef _ a _ _ _ _ _ _ _ _) => a | _ => ⟨[], [], none, [], [], none, []⟩
noncomputable def fnScope (n : Nat) : Scope := match PySem.Challenge.pw_of0005_01.main.body[n]? with | some (.FunctionDef _ _ _ _ _ _ s _ _ _) => s | _ => default
noncomputable def FnAt (h : Heap) (n : Nat) (f : Addr) : Prop := ∃ o doc pm an cd, h.get? f = some o ∧ o.data = .func (fnX (fnName n) (fnName n) (fnParams n) (fnBody n) (fnScope n) [] .none .none doc pm an cd .none) ∧ h.CodeRec cd (fnName n)
noncomputable def biList : List (Str × Value) := [("len", .builtin "len"), ("ValueError", .type "ValueError"), ("int", .type "int"), ("ord", .builtin "ord"), ("range", .type "range"), ("chr", .builtin "chr"), ("bytes", .type "bytes"), ("sum", .builtin "sum"), ("isinstance", .builtin "isinstance"), ("str", .type "str")]
structure Tops (mg mb : Str → Option Value) (fa : Nat → Addr) (G : Heap) : Prop where
  g : G.Ns mainGlobals mg
  b : G.Ns builtinsNs mb
  nolimit : G.NoLimit
  nodigits : ∃ mc, G.Ns cStatics mc ∧ mc "sys.int_max_str_digits" = none
  fn : ∀ n ∈ [1, 2, 3, 9, 11, 12, 13, 14, 15, 16, 17, 18, 19], mg (fnName n) = some (.ref (fa n)) ∧ FnAt G n (fa n)
  bi : ∀ p ∈ biList, mg p.1 = none ∧ mb p.1 = some p.2
theorem Tops.keeps {mg mb : Str → Option Value} {fa : Nat → Addr} {G G' : Heap} (T : Tops mg mb fa G) (k : G.StaysIn G') : Tops mg mb fa G' where
  g := T.g.keeps k
  b := T.b.keeps k
  nolimit := T.nolimit.keeps k
  nodigits := let ⟨mc, a, b⟩ := T.nodigits; ⟨mc, a.keeps k, b⟩
  fn := fun n hn => ⟨(T.fn n hn).1, let ⟨o, doc, pm, an, cd, h1, h2, h3⟩ := (T.fn n hn).2; ⟨o, doc, pm, an, cd, k _ _ h1, h2, h3.keeps k⟩⟩
  bi := T.bi
section
variable {prog : Program} {w : World} {A : Around} {E : Value → Shared → Prop} {s : Shared} {env : Env} {g : Gd} {G : Heap} {e : Ent} {I : Fz} {L : Addr} {m : Str → Option Value} {mu : List (Addr × Sh)} {mg mb : Str → Option Value} {fa : Nat → Addr} {x : Str} {pos : Pos} {v : Value}
theorem n_loc {Q : Value → Shared → Prop} (B : Bd g e I env.locals m mu s.heap) (hv : m x = some v) (h : Q v s) (hk : env.scope.kind = .function := by rfl) (hl : env.kindOf x = some .local := by rfl) (hd : (x == ("__debug__" : Str)) = false := by decide) :
    wpAny (model prog w) A (eval (.Name x pos) env) Q E s := wpAny_Name (wpAny_loadName_local hk hl B.ns hv h) hd
theorem n_fn {Q : Value → Shared → Prop} (n : Nat) (B : Bd g e I L m mu s.heap) (T : Tops mg mb fa e.top) (h : Q (.ref (fa n)) s) (hn : n ∈ [1, 2, 3, 9, 11, 12, 13, 14, 15, 16, 17, 18, 19] := by decide) (hg : env.globals = mainGlobals := by rfl) (hx : x = fnName n := by rfl)
    (hk : env.scope.kind = .function := by rfl) (hl : env.kindOf x = some .globalImplicit := by rfl) (hd : (x == ("__debug__" : Str)) = false := by decide) :
    wpAny (model prog w) A (eval (.Name x pos) env) Q E s :=
  Name_function_global hk hl (loadGlobal_global (hg ▸ T.g.keeps B.tops) (by rw [hx]; exact (T.fn n hn).1) h) hd
theorem n_bi {Q : Value → Shared → Prop} (B : Bd g e I L m mu s.heap) (T : Tops mg mb fa e.top) (hp : (x, v) ∈ biList) (h : Q v s) (hg : env.globals = mainGlobals := by rfl) (hb : env.builtins = builtinsNs := by rfl)
    (hk : env.scope.kind = .function := by rfl) (hl : env.kindOf x = some .globalImplicit := by rfl) (hd : (x == ("__debug__" : Str)) = false := by decide) :
    wpAny (model prog w) A (eval (.Name x pos) env) Q E s :=
  Name_function_global hk hl (loadGlobal_builtin (hg ▸ T.g.keeps B.tops) (T.bi _ hp).1 (hb ▸ T.b.keeps B.tops) (T.bi _ hp).2 h) hd
theorem n_cell {Q : Value → Shared → Prop} {c : Addr} (hc : env.cells.lookup x = some c) (hs : (Sh.cell (some v)).At s.heap c) (h : Q v s) (hk : env.scope.kind = .function := by rfl) (hl : env.kindOf x = some .cell := by rfl) (hd : (x == ("__debug__" : Str)) = false := by decide) :
    wpAny (model prog w) A (eval (.Name x pos) env) Q E s := wpAny_Name (wpAny_loadName_cell hk hl hc hs.cell h) hd
theorem n_free {Q : Value → Shared → Prop} {c : Addr} (hc : env.cells.lookup x = some c) (hs : (Sh.cell (some v)).At s.heap c) (h : Q v s) (hk : env.scope.kind = .function := by rfl) (hl : env.kindOf x = some .free := by rfl) (hd : (x == ("__debug__" : Str)) = false := by decide) (hn : (x == ("__classdict__" : Str)) = false := by decide) :
    wpAny (model prog w) A (eval (.Name x pos) env) Q E s := wpAny_Name (wpAny_loadName_free hk hl hc hs.cell h hn) hd
theorem n_locQ {Q : Value → Shared → Prop} (hk : env.scope.kind = .function) (hl : env.kindOf x = some .local) (B : Bd g e I env.locals m mu s.heap) (hv : m x = some v) (h : Q v s) (hd : (x == ("__debug__" : Str)) = false) :
    wpAny (model prog w) A (eval (.Name x pos) env) Q E s := n_loc B hv h hk hl hd
theorem n_biQ {Q : Value → Shared → Prop} (hk : env.scope.kind = .function) (hl : env.kindOf x = some .globalImplicit) (hg : env.globals = mainGlobals) (hb : env.builtins = builtinsNs) (hp : (x, v) ∈ biList) (B : Bd g e I L m mu s.heap) (T : Tops mg mb fa e.top) (h : Q v s) (hd : (x == ("__debug__" : Str)) = false) :
    wpAny (model prog w) A (eval (.Name x pos) env) Q E s := n_bi B T hp h hg hb hk hl hd
theorem n_cellQ {Q : Value → Shared → Prop} {c : Addr} (hk : env.scope.kind = .function) (hl : env.kindOf x = some .cell) (hc : env.cells.lookup x = some c) (hs : (Sh.cell (some v)).At s.heap c) (h : Q v s) (hd : (x == ("__debug__" : Str)) = false) :
    wpAny (model prog w) A (eval (.Name x pos) env) Q E s := n_cell hc hs h hk hl hd
theorem n_freeQ {Q : Value → Shared → Prop} {c : Addr} (hk : env.scope.kind = .function) (hl : env.kindOf x = some .free) (hc : env.cells.lookup x = some c) (hs : (Sh.cell (some v)).At s.heap c) (h : Q v s) (hd : (x == ("__debug__" : Str)) = false) (hn : (x == ("__classdict__" : Str)) = false) :
    wpAny (model prog w) A (eval (.Name x pos) env) Q E s := n_free hc hs h hk hl hd hn
theorem s_loc {Q : Unit → Shared → Prop} (B : Bd g e I env.locals m mu s.heap) (h : ∀ h', Bd g e I env.locals (fun y => if y = x then some v else m y) mu h' → Q () { s with heap := h', toks := s.toks + 1 })
    (hl : env.kindOf x = some .local := by rfl) (hp : (env.scope.kind == .class || (env.scope.kind == .module && env.locals != env.globals)) = false := by rfl) :
    wpAny (model prog w) A (storeName env x v) Q E s := wpAny_storeName_local hl B.ns (fun h' hn hs => h h' (B.store hn hs)) hp
theorem s_cell {Q : Unit → Shared → Prop} {c : Addr} {v₀ : Option Value} {pre post : List (Addr × Sh)} (B : Bd g e I L m mu s.heap) (hc : env.cells.lookup x = some c) (hmu : mu = pre ++ (c, .cell v₀) :: post)
    (h : ∀ h', Bd g e I L m (pre ++ (c, .cell (some v)) :: post) h' → Q () { s with heap := h' }) (hk : env.scope.kind = .function := by rfl) (hl : env.kindOf x = some .cell := by rfl) :
    wpAny (model prog w) A (storeName env x v) Q E s :=
  wpAny_storeName_cell hk hl hc (B.mus (c, .cell v₀) (by simp [hmu])).1.cell fun h' hv hs => h h' (B.upd hmu (fun b o hb q => (hs.2 b hb).trans q) (at_cell hv))
theorem a_list {vs : List Value} {Q : Value → Shared → Prop} (B : Bd g e I L m mu s.heap) (h : ∀ a h' J, Bd g e J L m mu h' → I.le J → J a = some (.list vs) → Q (.ref a) { s with heap := h' }) (hsz : vs.length ≤ sizeLine := by size_fits) :
    wpAny (model prog w) A (newList vs) Q E s :=
  wpAny_newObj_type (h _ _ _ (B.alloc (sh := .list vs) ⟨rfl, rfl, _, rfl⟩ rfl) (Fz.le_put _ (B.none_of (fresh _))) (Fz.put_self _ _ _)) (by show vs.toArray.size ≤ sizeLine; rw [List.size_toArray]; exact hsz)
theorem a_listM {vs : List Value} {Q : Value → Shared → Prop} (B : Bd g e I L m mu s.heap) (h : ∀ a h', Bd g e I L m ((a, .list vs) :: mu) h' → Q (.ref a) { s with heap := h' }) (hsz : vs.length ≤ sizeLine := by size_fits) :
    wpAny (model prog w) A (newList vs) Q E s :=
  wpAny_newObj_type (h _ _ (B.allocM (sh := .list vs) ⟨rfl, rfl, _, rfl⟩ rfl)) (by show vs.toArray.size ≤ sizeLine; rw [List.size_toArray]; exact hsz)
theorem a_tup {vs : List Value} {Q : Value → Shared → Prop} (B : Bd g e I L m mu s.heap) (h : ∀ a h' J, Bd g e J L m mu h' → I.le J → J a = some (.tup vs) → Q (.ref a) { s with heap := h' }) (hsz : vs.length ≤ sizeLine := by size_fits) :
    wpAny (model prog w) A (newTuple vs) Q E s :=
  wpAny_newObj_type (h _ _ _ (B.alloc (sh := .tup vs) ⟨rfl, _, rfl⟩ rfl) (Fz.le_put _ (B.none_of (fresh _))) (Fz.put_self _ _ _)) (by show vs.toArray.size ≤ sizeLine; rw [List.size_toArray]; exact hsz)
/-- how deep we are -/
structure Rm (A : Around) (n : Nat) : Prop where
  hd : A.handled = none
  dp : A.depth + n < recursionLimit
  un : A.units + 100 * n < cLine
theorem Rm.less {A : Around} {n k : Nat} (r : Rm A (n + k)) : Rm A n := ⟨r.hd, by have := r.dp; omega, by have := r.un; omega⟩
theorem Rm.deeper {A : Around} {n : Nat} (r : Rm A (n + 1)) (env : Env) : Rm (A.deeper env) n := ⟨r.hd, by show A.depth + 1 + n < _; have := r.dp; omega, by show A.units + 3 + 100 * n < _; have := r.un; omega⟩
theorem Rm.in1 {A : Around} {n : Nat} (r : Rm A (n + 1)) : Rm A.in1 n := ⟨r.hd, by show A.depth + n < _; have := r.dp; omega, by show A.units + 1 + 100 * n < _; have := r.un; omega⟩
/-- a call of a def of the text's own, at the call's place -/
theorem c_fn {Q : Value → Shared → Prop} {n : Nat} {ex : Expr} {rest : List Expr} (T : Tops mg mb fa G) (hG : G.StaysIn s.heap)
    (h : wpAny (model prog w) A (spliced (backTo pos (starEach (ex :: rest) env))) (fun vs s₁ => G.StaysIn s₁.heap ∧ wpAny (model prog w) A (call (.ref (fa n)) vs) Q E s₁) E s)
    (hn : n ∈ [1, 2, 3, 9, 11, 12, 13, 14, 15, 16, 17, 18, 19] := by decide) (he : starEach (ex :: rest) env = (false, eval ex env) :: starEach rest env := by rfl) :
    wpAny (model prog w) A (callWith pos (.ref (fa n)) [] (backTo pos (starEach (ex :: rest) env)) []) Q E s := by
  obtain ⟨o, _, _, _, _, h1, h2, _⟩ := (T.fn n hn).2
  exact callWith_def_at h1 h2 (wpAny_mono h (fun vs s₁ q => ⟨q.1 _ _ h1, q.2⟩) fun _ _ q => q) he
/-- into a def of the text's own that changes nothing -/
theorem c_in {Q : Value → Shared → Prop} (n : Nat) {args : List Value} {binds : List (Str × Value)} {Gt : Heap} (T : Tops mg mb fa Gt) (hG : Gt.StaysIn s.heap) (hR : A.depth < recursionLimit) (hI : ∀ a sh, I a = some sh → sh.At s.heap a)
    (hb : ∀ doc pm an cd, bindArgs (fnX (fnName n) (fnName n) (fnParams n) (fnBody n) (fnScope n) [] .none .none doc pm an cd .none) ⟨args, []⟩ = pure binds)
    (h : ∀ cd h₀, Bd ⟨s.heap, I⟩ ⟨Fz.nil, I, Gt⟩ I s.heap.objs.size (fun x => binds.reverse.lookup x) [] h₀ →
      wpAny (model prog w) (A.deeper (envX (fnName n) (fnScope n) s.heap.objs.size (fa n) cd [])) (execs (fnBody n) (envX (fnName n) (fnScope n) s.heap.objs.size (fa n) cd []))
        (fun f s' => Q (match f with | .ret v => v | _ => .none) s') (fun _ _ => False) { s with heap := h₀, toks := s.toks + binds.length })
    (hn : n ∈ [1, 2, 3, 9, 11, 12, 13, 14, 15, 16, 17, 18, 19] := by decide) (hcell : ∀ x ∈ (fnScope n).names, x.2 ≠ .cell := by decide) (hloc : ∀ x ∈ binds, (fnScope n).names.lookup x.1 = some .local)
    (hco : (fnScope n).isCoroutine = false := by rfl) (hgen : (fnScope n).isGenerator = false := by rfl) (hk : (fnScope n).kind = .function := by rfl) :
    wpAny (model prog w) A (call (.ref (fa n)) args) Q E s := by
  obtain ⟨o, doc, pm, an, cd, h1, h2, h3⟩ := (T.fn n hn).2
  refine wpAny_call (codeAny_call_def (fd := fnX (fnName n) (fnName n) (fnParams n) (fnBody n) (fnScope n) [] .none .none doc pm an cd .none) hR (hG _ _ h1) h2 (T.nolimit.keeps hG) (h3.keeps hG) rfl (BindsTo.of_eq (hb doc pm an cd)) hcell hloc (fun h₀ hns hk₀ => ?_) hco hgen hk)
  exact wpAny_mono (h cd h₀ (Bd.enter hG hI hns hk₀)) (fun _ _ q => q) fun _ _ q => q.elim
end
noncomputable def bmE : List Value := [.type "Exception", .type "BaseException", .type "object"]
noncomputable def faL : Nat → Addr
  | 1 => 21 | 2 => 28 | 3 => 35 | 9 => 100 | 11 => 107 | 12 => 114 | 13 => 119 | 14 => 124 | 15 => 131 | 16 => 138 | 17 => 143 | 18 => 148 | 19 => 155 | _ => 0
/-- the class in the text's top -/
noncomputable def inDef : Str × Arguments × List Stmt × Scope := match (PySem.Challenge.pw_of0005_01.main.body : List Stmt)[(4 : Nat)]? with
  | some (.ClassDef _ _ _ b _ _ _ _ _ _ _) => (match (b : List Stmt)[(0 : Nat)]? with | some (.FunctionDef x a b _ _ _ s _ _ _) => (x, a, b, s) | _ => (Str.ofString "", ⟨[], [], none, [], [], none, []⟩, [], default))
  | _ => (Str.ofString "", ⟨[], [], none, [], [], none, []⟩, [], default)
noncomputable def inQual : Str := Str.ofString "_Example.__init__"
/-- the objects that the head looks at -/
noncomputable def addrs : List Addr := [2, 3, 6, 15, 17, 18, 20, 21, 22, 24, 25, 27, 28, 29, 31, 32, 34, 35, 43, 45, 46, 48, 49, 50, 51, 52, 53, 54, 57, 64, 65, 66, 67, 70, 77, 78, 79, 82, 89, 90, 91, 94, 96, 97, 99, 100, 101, 103, 104, 106, 107, 108, 110, 111, 113, 114, 115, 118, 119, 120, 123, 124, 125, 127, 128, 130, 131, 132, 134, 135, 137, 138, 139, 142, 143, 144, 147, 148, 149, 151, 152, 154, 155, 156, 159, 160]
noncomputable def fragAt (h : Heap) : List Addr → Frag
  | [] => []
  | a :: as => match h.get? a with
    | some o => (a, o) :: fragAt h as
    | none => fragAt h as
theorem fragAt_in {h : Heap} : ∀ as : List Addr, (fragAt h as).In h
  | [], a, o, e => nomatch e
  | b :: as, a, o, e => by
    unfold fragAt at e
    cases q : h.get? b with
    | none => rw [q] at e; exact fragAt_in as a o e
    | some o' =>
      rw [q] at e
      dsimp only at e
      rw [List.lookup_cons] at e
      by_cases r : a = b
      · subst r; rw [beq_self_eq_true] at e; cases e; exact q
      · rw [beq_eq_false_iff_ne.mpr r] at e; exact fragAt_in as a o e
noncomputable def fdOf (K : Frag) (a : Addr) : Option FuncData := match K.lookup a with
  | some ⟨_, _, .func fd, _⟩ => some fd
  | _ => none
theorem fdOf_some {K : Frag} {a : Addr} {fd : FuncData} (e : fdOf K a = some fd) : ∃ o, K.lookup a = some o ∧ o.data = .func fd := by
  unfold fdOf at e
  split at e
  · rename_i q; cases e; exact ⟨_, q, rfl⟩
  · cases e
noncomputable def pmV (n : Nat) : Value := .str (if n ≤ 3 then "cpy313.pickletools" else if n = 9 then "cpy313.ftplib" else "law_of0005_01") (if n ≤ 3 then 187 else if n = 9 then 244 else 311)
noncomputable def cdV (n : Nat) : Value := .ref (faL n - 1)
noncomputable def fdV (n : Nat) : FuncData := fnX (fnName n) (fnName n) (fnParams n) (fnBody n) (fnScope n) [] .none .none .none (pmV n) none (cdV n) .none
noncomputable abbrev FnO := Option (Option Value) × Option FuncData × Bool
noncomputable def fnO (K : Frag) (n : Nat) : FnO := (nsIn K mainGlobals (fnName n), fdOf K (faL n), codeIn K (cdV n) (fnName n))
noncomputable def fnV (n : Nat) : FnO := (some (some (.ref (faL n))), some (fdV n), true)
noncomputable abbrev KO := (FnO × FnO × FnO × FnO × FnO × FnO × FnO × FnO × FnO × FnO × FnO × FnO × FnO) × List Bool × List (Option Bool) × List (Option (Option Value)) × List (Option (Option Value)) × Option FuncData × Option Value
noncomputable def kO (K : Frag) : KO :=
  ((fnO K 1, fnO K 2, fnO K 3, fnO K 9, fnO K 11, fnO K 12, fnO K 13, fnO K 14, fnO K 15, fnO K 16, fnO K 17, fnO K 18, fnO K 19),
   [noTabs K, codeHdIn K 106 102, excIn K 79 bmE "Exception.__new__", excIn K 91 bmE "Exception.__new__", makesIn K 52, codeIn K (.ref 48) inQual, plainOver K 52, hasDictIn K 52, keepIn K (.ref 52)],
   [exmOne K (.ref 79) (.ref 79), exmOne K (.ref 91) (.ref 79), exmOne K (.ref 91) (.ref 91), exmOne K (.type "ValueError") (.ref 79), exmOne K (.type "ValueError") (.ref 91), exmOne K (.type "ValueError") (.type "ValueError"),
    subIn K (.ref 79) (.type "BaseException"), subIn K (.ref 91) (.type "BaseException"), subIn K (.type "ValueError") (.type "BaseException")],
   [nsIn K mainGlobals "len", nsIn K mainGlobals "ValueError", nsIn K mainGlobals "int", nsIn K mainGlobals "ord", nsIn K mainGlobals "range", nsIn K mainGlobals "chr", nsIn K mainGlobals "bytes", nsIn K mainGlobals "sum", nsIn K mainGlobals "isinstance", nsIn K mainGlobals "str"],
   [nsIn K mainGlobals (Str.ofString "_Example"), nsIn K mainGlobals (Str.ofString "error_reply"), nsIn K mainGlobals (Str.ofString "error_proto"), findIn K (.ref 52) "__getattribute__", findIn K (.ref 52) "__getattr__", findIn K (.ref 52) "read",
    findIn K (.ref 52) "__init__", findIn K (.ref 52) "__setattr__", takerIn K 52 (Str.ofString "value"), takerIn K 52 (Str.ofString "read"), findIn K (.type "ValueError") "__str__", findIn K (.ref 79) "__str__", findIn K (.ref 91) "__str__"],
   fdOf K 49, typeIn K (.ref 49))
noncomputable def kV : KO :=
  ((fnV 1, fnV 2, fnV 3, fnV 9, fnV 11, fnV 12, fnV 13, fnV 14, fnV 15, fnV 16, fnV 17, fnV 18, fnV 19),
   [true, true, true, true, true, true, true, true, true],
   [some true, some false, some true, some false, some false, some true, some true, some true, some true],
   [some none, some none, some none, some none, some none, some none, some none, some none, some none, some none],
   [some (some (.ref 52)), some (some (.ref 79)), some (some (.ref 91)), some (some (.builtin "object.__getattribute__")), some none, some none,
    some (some (.ref 49)), some (some (.builtin "object.__setattr__")), some none, some none, some (some (.builtin "BaseException.__str__")), some (some (.builtin "BaseException.__str__")), some (some (.builtin "BaseException.__str__"))],
   some (fnX inDef.1 inQual inDef.2.1 inDef.2.2.1 inDef.2.2.2 [] .none .none .none (pmV 1) none (.ref 48) .none), some (.type "function"))
noncomputable def hk : Hook where
  α := KO × Option Obj
  obs := fun s => (kO (fragAt s.heap addrs), s.heap.get? 102)
  val := fun _ => (kV, some (tabObj #[]))
  says := fun _ h => (∃ K : Frag, K.In h ∧ kO K = kV) ∧ h.get? 102 = some (tabObj #[])
  of := fun _ _ x => ⟨⟨_, fragAt_in _, (Prod.mk.inj x).1⟩, (Prod.mk.inj x).2⟩
  keeps := fun _ _ _ x k => ⟨let ⟨K, a, b⟩ := x.1; ⟨K, a.keeps k, b⟩, k _ _ x.2⟩
/-- the text's top without its `__name__` rows -/
noncomputable abbrev vq (p : Program) : Program := view p [1, 2, 3, 4, 6, 7, 8, 9, 11, 12, 13, 14, 15, 16, 17, 18, 19, 20]
/-- the top's run, in the library's quick words -/
noncomputable def topQ (p : Program) (w : World) (N : Nat) (s₀ : Shared) : Option Shared :=
  match s₀.heap.isNs mainGlobals && s₀.gens.size == 0 with
  | true => (PySem.W.Fast.tw14082659384304107361 PySem.W.Fast.tw14364793385576792824 p w s₀.heap.objs.size (s₀.heap.nsMap mainGlobals "__annotations__") N s₀ (topStub p)).bind fun s₁ => match staticsOk (importedModules p.main.body) s₀.heap s₁.heap && namesBound p s₁.heap && gensDone s₁ && laidKept s₀.heap s₁.heap with
      | true => some s₁
      | false => none
  | false => none
theorem topQ_eq : topFrom treeTable = topQ := by
  funext p w N s₀
  unfold topFrom topQ
  rw [PySem.W.Fast.te14082659384304107361, PySem.W.Fast.te14364793385576792824]
  rfl
theorem left_boot {p q : Program} {Xt : Shared → Bool} {α : Type} {Yf : Shared → α} {Ya : World → α} {N : Nat} (e : opening p = plainProg p.main.scope.names) (hN : Nat.ble 600 N = true) (f : ∀ s, fenceModules? p s = some s)
    (h : ∀ w : World, (fun os => (topQ p w N ⟨boot_heap w.params, Array.mk [], boot_drawn, boot_toks, os⟩).map (fun s => (PySem.W.Fast.tw4187177175401517315 q [] (importedModules p.main.body) Xt true s, Yf s))) = fun _ => some (openGood q [], Ya w)) : LeftO p q [] Xt Yf Ya N := fun w => by
  obtain ⟨⟨h', gs, d, k, os⟩, a, b⟩ := Option.map_eq_some_iff.mp (boot_open e hN f w)
  obtain ⟨rfl, rfl, rfl, rfl⟩ : h' = boot_heap w.params ∧ gs = Array.mk [] ∧ d = boot_drawn ∧ k = boot_toks := by simpa only [Prod.mk.injEq] using b
  unfold openEnds
  rw [a, topQ_eq, PySem.W.Fast.te4187177175401517315]
  exact congrFun (h w) os
/-- the top's run, once for all: what it leaves, and what our hook sees of it -/
theorem top_run : ∀ w : World, (fun os => (topQ PySem.Challenge.pw_of0005_01 w 3000 ⟨boot_heap w.params, Array.mk [], boot_drawn, boot_toks, os⟩).map (fun s =>
    (PySem.W.Fast.tw4187177175401517315 (vq PySem.Challenge.pw_of0005_01) [] (importedModules PySem.Challenge.pw_of0005_01.main.body) (fun s => xlAt (vq PySem.Challenge.pw_of0005_01) [] s && recOk (RowW.records PySem.Challenge.rw_of0005_01.row.toRowW) s) true s, hk.obs s))) =
    fun _ => some (openGood (vq PySem.Challenge.pw_of0005_01) [], hk.val w) := by
  intro w
  kernel_rfl
/-- how a turn of a loop may end -/
noncomputable def TurnEnd (Q : Flow → Shared → Prop) (P : Shared → Prop) (f : Flow) (s₃ : Shared) : Prop :=
  match f with
  | .next | .cont => P s₃
  | .brk => Q .next s₃
  | .ret v => Q (.ret v) s₃
/-- a turn's end, the loop going on -/
noncomputable def Goes (s : Shared) (g : Gd) (e : Ent) (L : Addr) (P : Fz → (Str → Option Value) → List (Addr × Sh) → Prop) (s₃ : Shared) : Prop :=
  ∃ J' m' mu' h' tk', s₃ = { s with heap := h', toks := tk' } ∧ Bd g e J' L m' mu' h' ∧ P J' m' mu'
/-- a ground of a turn lies over the loop's -/
structure Over (g g' : Gd) : Prop where
  st : g.h.StaysIn g'.h
  le : g.I.le g'.I
  f : ∀ a sh, g'.I a = some sh → g.I a = none → g.h.get? a = none
theorem Over.refl (g : Gd) : Over g g := ⟨fun _ _ q => q, Fz.le.refl _, fun a sh q r => by rw [r] at q; cases q⟩
theorem Over.trans {g g' g'' : Gd} (x : Over g g') (y : Over g' g'') : Over g g'' := ⟨fun b o q => y.st b o (x.st b o q), x.le.trans y.le, fun a sh q r => by
  cases t : g'.I a with
  | some sh' => exact x.f a sh' t r
  | none =>
    have := y.f a sh q t
    cases u : g.h.get? a with
    | none => rfl
    | some o => rw [x.st _ _ u] at this; cases this⟩
theorem Bd.over {g g' : Gd} {e : Ent} {J : Fz} {L : Addr} {m : Str → Option Value} {mu : List (Addr × Sh)} {h : Heap} (B : Bd g' e J L m mu h) (o : Over g g') (t : e.top.StaysIn g.h) : Bd g e J L m mu h := B.back t o.st o.le o.f
section
variable {prog : Program} {w : World} {A : Around} {E : Value → Shared → Prop} {s : Shared} {env : Env} {g : Gd} {e : Ent} {I : Fz} {L : Addr} {m : Str → Option Value} {mu : List (Addr × Sh)}
/-- a record lies apart from all that is known -/
theorem Bd.apart {h : Heap} (B : Bd g e I L m mu h) {X : Addr} (hr : ∃ o vs, h.get? X = some o ∧ o.data = .fields vs) : L ≠ X ∧ (∀ p ∈ mu, p.1 ≠ X) ∧ I X = none ∧ e.Z X = none := by
  obtain ⟨o, vs, ho, hd⟩ := hr
  have no : ∀ {sh : Sh}, ¬ sh.At h X := fun {sh} ⟨o', ho', is⟩ => by rw [ho] at ho'; cases ho'; exact is.nf vs hd
  refine ⟨fun q => no (at_ns (q ▸ B.ns)), fun p hp q => no (q ▸ (B.mus p hp).1), ?_, ?_⟩
  · cases q : I X with
    | none => rfl
    | some sh => exact (no (B.sub _ _ q)).elim
  · cases q : e.Z X with
    | none => rfl
    | some sh => exact (no (B.kz _ _ q)).elim
/-- a for loop over anything that walks -/
theorem for_walk {target : Expr} {body : List Stmt} {Q : Flow → Shared → Prop} {It : Addr} {fp : List Addr} {n : Nat} {Pv : Nat → Value → Prop} {St : Nat → Heap → Prop} {EE : Value → Shared → Prop}
    (P : Nat → Fz → (Str → Option Value) → List (Addr × Sh) → Prop)
    (W : Walks prog w A It fp [It] n Pv St) (hrec : ∀ i h, St i h → ∃ o vs, h.get? It = some o ∧ o.data = .fields vs) (hfp : ∀ b ∈ fp, b = It ∨ ∃ sh, I b = some sh) (hG : g.h.get? It = none)
    (hst : St 0 s.heap) (B : Bd g e I env.locals m mu s.heap) (p0 : P 0 I m mu)
    (turn : ∀ i v g' J m' mu' h tk, i < n → Pv i v → Over g g' → Bd g' e J env.locals m' mu' h → I.le J → P i J m' mu' → St (i + 1) h →
      wpAny (model prog w) A (letOwnedTupleGo target (.ref It) v) (fun _ s₁ => wpAny (model prog w) A (assign target env v) (fun _ s₂ => wpAny (model prog w) A (execs body env)
        (fun f s₃ => TurnEnd Q (Goes s g' e env.locals (P (i + 1))) f s₃) (notedBy (model prog w) A env EE) s₂) (notedBy (model prog w) A env EE) s₁) (notedBy (model prog w) A env EE) { s with heap := h, toks := tk })
    (done : ∀ J m' mu' h tk, Bd g e J env.locals m' mu' h → I.le J → P n J m' mu' → Q .next { s with heap := h, toks := tk }) :
    codeAny (model prog w) A (.forLoop target (.ref It) body [] env) (fun r s' => match r with | .ok f => Q f s' | .error x => EE x s') s := by
  refine codeAny_forLoop_any (fun k s' => ∃ i J m' mu' h tk, s' = { s with heap := h, toks := tk } ∧ i ≤ n ∧ k = n - i ∧ St i h ∧ Bd g e J env.locals m' mu' h ∧ I.le J ∧ P i J m' mu') ?_ n ⟨0, I, m, mu, s.heap, s.toks, rfl, Nat.zero_le _, rfl, hst, B, Fz.le.refl _, p0⟩
  rintro k s' ⟨i, J, m', mu', h, tk, rfl, hi, rfl, st, B', hJ, hP⟩
  have move : ∀ h₁, (∀ b o, b ∉ [It] → h.get? b = some o → h₁.get? b = some o) → Bd g e J env.locals m' mu' h₁ := fun h₁ k₁ => by
    obtain ⟨a1, a2, a3, a4⟩ := B'.apart (hrec _ _ st)
    exact B'.moveBut hG a4 a3 a1 a2 fun b o hb => k₁ b o (by simpa using hb)
  by_cases hlt : i < n
  · refine W.item i _ _ _ hlt st fun v h₁ tk₁ hv st₁ k₁ => ?_
    have B₁ := move h₁ k₁
    obtain ⟨a1, a2, a3, a4⟩ := B₁.apart (hrec _ _ st₁)
    refine wpAny_mono (turn i v ⟨under h₁ env.locals mu', J⟩ J m' mu' h₁ tk₁ hlt hv ⟨B₁.stays, B'.gi, B'.gf⟩ B₁.turn hJ hP st₁) (fun _ s₁ q₁ => wpAny_mono q₁ (fun _ s₂ q => wpAny_mono q (fun f s₃ q₂ => ?_) fun _ _ x => x) fun _ _ x => x) fun _ _ x => x
    have go : Goes s ⟨under h₁ env.locals mu', J⟩ e env.locals (P (i + 1)) s₃ → ∃ m_1, m_1 < n - i ∧ ∃ i J m' mu' h tk, s₃ = { s with heap := h, toks := tk } ∧ i ≤ n ∧ m_1 = n - i ∧ St i h ∧ Bd g e J env.locals m' mu' h ∧ I.le J ∧ P i J m' mu' := by
      rintro ⟨J', m₂, mu₂, h₂, tk₂, rfl, B₃, hP'⟩
      refine ⟨n - (i + 1), by omega, i + 1, J', m₂, mu₂, h₂, tk₂, rfl, hlt, rfl, ?_, B₃.back B'.tG B₁.stays B'.gi B'.gf, hJ.trans B₃.gi, hP'⟩
      refine W.frame _ _ _ st₁ fun b hb o ho => B₃.base b o (under_get ho ?_ ?_)
      · rcases hfp b hb with rfl | ⟨sh, q⟩
        · exact Ne.symm a1
        · exact fun r => by have := hJ _ _ q; rw [r, B'.iL] at this; cases this
      · rcases hfp b hb with rfl | ⟨sh, q⟩
        · exact a2
        · exact fun p hp r => by have := hJ _ _ q; rw [← r, (B'.mus p hp).2.2.1] at this; cases this
    cases f with
    | next => exact go q₂
    | cont => exact go q₂
    | brk => exact q₂
    | ret v => exact q₂
  · obtain rfl : i = n := by omega
    refine W.done _ _ _ st fun h₁ tk₁ k₁ => ?_
    exact wpAny_execs_nil (done J m' mu' h₁ tk₁ (move h₁ k₁) hJ hP)
/-- over a frozen list -/
theorem for_list {target : Expr} {body : List Stmt} {Q : Flow → Shared → Prop} {a : Addr} {vs : List Value} {EE : Value → Shared → Prop}
    (P : Nat → Fz → (Str → Option Value) → List (Addr × Sh) → Prop) (hh : A.handled = none)
    (B : Bd g e I env.locals m mu s.heap) (ha : I a = some (.list vs)) (p0 : P 0 I m mu)
    (hlet : ∀ (It : Addr) (v : Value) (s' : Shared) (l : Addr) (i : Nat) (QQ : Unit → Shared → Prop), v ∈ vs → s'.heap.IsListIter It l i → QQ () s' → ∀ E', wpAny (model prog w) A (letOwnedTupleGo target (.ref It) v) QQ E' s')
    (turn : ∀ i v g' J m' mu' h tk, vs[i]? = some v → Over g g' → Bd g' e J env.locals m' mu' h → I.le J → P i J m' mu' →
      wpAny (model prog w) A (assign target env v) (fun _ s₂ => wpAny (model prog w) A (execs body env)
        (fun f s₃ => TurnEnd Q (Goes s g' e env.locals (P (i + 1))) f s₃) (notedBy (model prog w) A env EE) s₂) (notedBy (model prog w) A env EE) { s with heap := h, toks := tk })
    (done : ∀ J m' mu' h tk, Bd g e J env.locals m' mu' h → I.le J → P vs.length J m' mu' → Q .next { s with heap := h, toks := tk }) :
    wpAny (model prog w) A (pyIter (.ref a)) (fun it s₂ => codeAny (model prog w) A (.forLoop target it body [] env) (fun r s' => match r with | .ok f => Q f s' | .error x => EE x s') s₂) E s := by
  have hl := (B.sub _ _ ha).list
  refine wpAny_pyIter_list hl ?_
  have hne : a ≠ s.heap.objs.size := Nat.ne_of_lt (B.sub _ _ ha).lt
  have W := Walks.list (prog := prog) (w := w) hh s.heap.objs.size a hne vs.toArray
  rw [show vs.toArray.size = vs.length by simp] at W
  refine for_walk (s := { s with heap := _ }) P W ?_ ?_ (B.g_of (fresh _)) ⟨⟨_, Heap.get?_push_size _ rfl, rfl, rfl⟩, hl.at fun o q => Heap.get?_push_of_some _ q⟩ (B.push _) p0 ?_ ?_
  · rintro i h ⟨⟨o, ho, _, hd⟩, _⟩; exact ⟨o, _, ho, hd⟩
  · intro b hb
    rcases List.mem_cons.mp hb with q | q
    · exact .inl q
    · exact .inr ⟨_, (List.mem_singleton.mp q) ▸ ha⟩
  · intro i v g' J m' mu' h tk hi hv hGG B' hJ hP st
    have hv' : vs[i]? = some v := by simpa using hv
    refine hlet _ v _ _ _ _ (List.mem_of_getElem? hv') st.1 ?_ _
    exact turn i v g' J m' mu' h tk hv' hGG B' hJ hP
  · exact fun J m' mu' h tk B' hJ hP => done J m' mu' h tk B' hJ hP
/-- the turns of a comprehension of one clause, whatever the target -/
theorem compLoop_any {R : Result → Shared → Prop} {elt target iter : Expr} {scope : Scope} {pos : Pos} {it acc : Value} {cenv : Env} (II : Nat → Shared → Prop)
    (turn : ∀ n s, II n s → wpAny (model prog w) A (pyNext it) (fun r s₁ => match r with
      | none => R (.ok .next) s₁
      | some v => wpAny (model prog w) A (letOwnedTupleGo target it v) (fun _ s₁' => wpAny (model prog w) A (assign target cenv v) (fun _ s₂ => wpAny (model prog w) A (eval elt cenv) (fun x s₃ =>
          wpAny (model prog w) A (call (.builtin "list.append") [acc, x]) (fun _ s₄ => ∃ m, m < n ∧ II m s₄) (notedBy (model prog w) A cenv fun e s' => R (.error e) s') s₃)
          (notedBy (model prog w) A cenv fun e s' => R (.error e) s') s₂) (notedBy (model prog w) A cenv fun e s' => R (.error e) s') s₁') (notedBy (model prog w) A cenv fun e s' => R (.error e) s') s₁) (notedBy (model prog w) A cenv fun e s' => R (.error e) s') s)
    (n : Nat) (h : II n s) : codeAny (model prog w) A (.compLoop (.ListComp elt [⟨target, iter, [], 0⟩] scope pos) 0 it acc cenv) R s := by
  refine codeAny_loop rfl II (fun n s hI => ?_) n h
  show wpAny _ _ ((compTurn (.ListComp elt [⟨target, iter, [], 0⟩] scope pos) 0 it acc cenv).onRaise (fun x => do noteFrame x cenv; theTreesLotGoes x)) _ _ s
  refine wpAny_noted ?_
  rw [compTurn_list1]
  refine wpAny_bind (wpAny_standAt (wpAny_bind (wpAny_mono (turn n s hI) (fun r s₁ h₁ => ?_) fun _ _ q => q)))
  cases r with
  | none => exact wpAny_pure h₁
  | some v =>
    refine wpAny_bind (wpAny_mono h₁ (fun _ s₁' h₁' => wpAny_bind (wpAny_mono h₁' (fun _ s₂ h₂ => wpAny_bind (wpAny_bind (wpAny_mono h₂ (fun x s₃ h₃ => wpAny_bind (wpAny_mono h₃ (fun _ s₄ h₄ => ?_) fun _ _ q => q)) fun _ _ q => q))) fun _ _ q => q)) fun _ _ q => q)
    exact wpAny_pure (wpAny_pure ⟨rfl, h₄⟩)
/-- what lies outside all that is known -/
noncomputable def Off (g : Gd) (e : Ent) (J : Fz) (L : Addr) (mu : List (Addr × Sh)) (a : Addr) : Prop := g.h.get? a = none ∧ e.Z a = none ∧ J a = none ∧ a ≠ L ∧ ∀ p ∈ mu, p.1 ≠ a
theorem Bd.off {h : Heap} (B : Bd g e I L m mu h) {a : Addr} (ha : h.get? a = none) : Off g e I L mu a := ⟨B.g_of ha, B.z_of ha, B.none_of ha, B.L_of ha, B.mu_of ha⟩
/-- a comprehension over anything that walks, begun -/
theorem comp_walk {elt target iter : Expr} {scope : Scope} {pos : Pos} {cl : List (Str × Addr)} {It : Addr} {fp : List Addr} {n : Nat} {Pv : Nat → Value → Prop} {St : Nat → Heap → Prop} {RR : Value → Addr → Result → Shared → Prop}
    (P : Nat → Fz → List (Addr × Sh) → List Value → Prop)
    (W : Walks prog w A It fp [It] n Pv St) (hrec : ∀ i h, St i h → ∃ o vs, h.get? It = some o ∧ o.data = .fields vs) (hfp : ∀ b ∈ fp, b = It ∨ ∃ sh, I b = some sh) (hG : g.h.get? It = none)
    (hst : St 0 s.heap) (B : Bd g e I L m mu s.heap) (p0 : P 0 I mu []) (hn : n ≤ sizeLine)
    (hcell : ∀ x ∈ scope.names, x.2 ≠ .cell) (hkind : scope.kind = .function)
    (turn : ∀ i v g' J C D m' mu' ys h tk, i < n → Pv i v → Over g g' → Bd g' e J C m' mu' h → I.le J → P i J mu' ys → ys.length = i → St (i + 1) h → g'.h.Ns L m →
      wpAny (model prog w) A (letOwnedTupleGo target (.ref It) v) (fun _ s₁ => wpAny (model prog w) A (assign target (compEnvC scope cl C env) v) (fun _ s₂ => wpAny (model prog w) A (eval elt (compEnvC scope cl C env))
        (fun y s₃ => Goes s g' e C (fun J' _ mu'' => P (i + 1) J' mu'' (ys ++ [y])) s₃) (notedBy (model prog w) A (compEnvC scope cl C env) fun x s' => RR (.ref D) C (.error x) s') s₂)
        (notedBy (model prog w) A (compEnvC scope cl C env) fun x s' => RR (.ref D) C (.error x) s') s₁) (notedBy (model prog w) A (compEnvC scope cl C env) fun x s' => RR (.ref D) C (.error x) s') { s with heap := h, toks := tk })
    (done : ∀ J C D mC mu' ys h tk, Bd g e J L m mu' h → I.le J → P n J mu' ys → ys.length = n → h.Ns C mC → (Sh.list ys).At h D → C ≠ D → Off g e J L mu' C → Off g e J L mu' D → RR (.ref D) C (.ok .next) { s with heap := h, toks := tk }) :
    wpAny (model prog w) A (newList []) (fun acc s₃ => wpAny (model prog w) A (newFunctionEnv scope env.globals cl [] env.qual none .none (some env)) (fun cenv s₄ =>
      codeAny (model prog w) A (.compStart (.ListComp elt [⟨target, iter, [], 0⟩] scope pos) 0 (.ref It) acc { cenv with scope := relabel scope env }) (RR acc cenv.locals) s₄) E s₃) E s := by
  refine wpAny_newObj_type (hd := by size_fits) (wpAny_newFunctionEnv hcell (by intro y hy; simp at hy) (fun h₁ hns₁ hsb₁ => ?_) hkind)
  dsimp only at hns₁ hsb₁ ⊢
  generalize hH : s.heap.push { cls := .type "list", dict := none, data := .seq ([] : List Value).toArray } = H at hns₁ hsb₁ ⊢
  have hHs : H.objs.size = s.heap.objs.size + 1 := by rw [← hH, Heap.size_push]
  generalize hD : s.heap.objs.size = D at hHs ⊢
  generalize hC : H.objs.size = C at hns₁ hsb₁ hHs ⊢
  have old : ∀ b o, s.heap.get? b = some o → h₁.get? b = some o := fun b o q => by
    have hb : b < C := by rw [hHs]; exact Nat.lt_succ_of_lt (hD ▸ Heap.lt_size q)
    exact hsb₁.extBut b o (Nat.ne_of_lt hb) (Heap.get?_push_of_some _ (hH ▸ Heap.get?_push_of_some _ q))
  have hDl : (Sh.list []).At h₁ D := ⟨_, hsb₁.extBut D _ (by rw [hHs]; exact Nat.ne_of_lt (Nat.lt_succ_self _)) (Heap.get?_push_of_some _ (hH ▸ hD ▸ Heap.get?_push_size _ rfl)), rfl, rfl, _, rfl⟩
  have oD := B.off (a := D) (Heap.get?_none_of_le (h := s.heap) (Nat.le_of_eq hD))
  have oC := B.off (a := C) (Heap.get?_none_of_le (h := s.heap) (by rw [hD]; omega))
  have B₁ := B.keep old
  have st₁ : St 0 h₁ := W.frame _ _ _ hst fun b _ o q => old b o q
  have hCD : C ≠ D := by omega
  clear hH hD hC hHs
  have loop : ∀ s₂ : Shared, s₂ = { s with heap := h₁, toks := s.toks + ([] : List (Str × Value)).length } →
      codeAny (model prog w) A (.compLoop (.ListComp elt [⟨target, iter, [], 0⟩] scope pos) 0 (.ref It) (.ref D) (compEnvC scope cl C env)) (RR (.ref D) C) s₂ := by
    rintro s₂ rfl
    refine compLoop_any (fun k s' => ∃ i J mu' ys mC h tk, s' = { s with heap := h, toks := tk } ∧ i ≤ n ∧ k = n - i ∧ St i h ∧ Bd g e J L m mu' h ∧ I.le J ∧ P i J mu' ys ∧ ys.length = i ∧ h.Ns C mC ∧ (Sh.list ys).At h D ∧ Off g e J L mu' C ∧ Off g e J L mu' D) ?_ n
      ⟨0, I, mu, [], _, h₁, _, rfl, Nat.zero_le _, rfl, st₁, B₁, Fz.le.refl _, p0, rfl, hns₁, hDl, oC, oD⟩
    rintro k s' ⟨i, J, mu', ys, mC, h, tk, rfl, hi, rfl, st, B', hJ, hP, hys, nC, lD, oC', oD'⟩
    have kIt : ∀ h₂, (∀ b o, b ∉ [It] → h.get? b = some o → h₂.get? b = some o) → Bd g e J L m mu' h₂ ∧ h₂.Ns C mC ∧ (Sh.list ys).At h₂ D := fun h₂ k₂ => by
      obtain ⟨a1, a2, a3, a4⟩ := B'.apart (hrec _ _ st)
      obtain ⟨oI, vI, hoI, hdI⟩ := hrec _ _ st
      have kk : ∀ b o, b ≠ It → h.get? b = some o → h₂.get? b = some o := fun b o hb => k₂ b o (by simpa using hb)
      have no : ∀ {sh : Sh} {b : Addr}, sh.At h b → b ≠ It := fun {sh b} ⟨o', ho', is⟩ q => by rw [q, hoI] at ho'; cases ho'; exact is.nf _ hdI
      exact ⟨B'.moveBut hG a4 a3 a1 a2 kk, nC.at' fun o => kk _ o (no (at_ns nC)), lD.keep fun o => kk _ o (no lD)⟩
    by_cases hlt : i < n
    · refine W.item i _ _ _ hlt st fun v h₂ tk₂ hv st₂ k₂ => ?_
      obtain ⟨B₂, nC₂, lD₂⟩ := kIt h₂ k₂
      obtain ⟨a1, a2, a3, a4⟩ := B₂.apart (hrec _ _ st₂)
      obtain ⟨oI, vI, hoI, hdI⟩ := hrec _ _ st₂
      have noI : ∀ {sh : Sh} {b : Addr}, sh.At h₂ b → b ≠ It := fun {sh b} ⟨o', ho', is⟩ q => by rw [q, hoI] at ho'; cases ho'; exact is.nf _ hdI
      have ug : ∀ b o, h₂.get? b = some o → b ≠ C → (∀ p ∈ mu', p.1 ≠ b) → (under h₂ C mu').get? b = some o := fun b o q r t => under_get q r t
      have gU : g.h.StaysIn (under h₂ C mu') := fun b o q => ug b o (B₂.base b o q) (fun r => by rw [r, oC'.1] at q; cases q) fun p hp r => by rw [← r, (B₂.mus p hp).2.2.2.1] at q; cases q
      have BC : Bd ⟨under h₂ C mu', J⟩ e J C mC mu' h₂ :=
        { tG := fun b o q => gU b o (B₂.tG b o q), base := fun b o q => of_hideAll _ q, kz := B₂.kz, gi := Fz.le.refl _, gf := (fun a sh q hq => by rw [show J a = none from hq] at q; cases q), ei := B₂.ei, ef := B₂.ef, sub := B₂.sub, ns := nC₂, zL := oC'.2.1,
          gL := hideAll_none _ List.mem_cons_self, iL := oC'.2.2.1, mus := fun p hp => ⟨(B₂.mus p hp).1, oC'.2.2.2.2 p hp, (B₂.mus p hp).2.2.1, hideAll_none _ (List.mem_cons_of_mem _ (List.mem_map_of_mem hp)), (B₂.mus p hp).2.2.2.2⟩, nd := B₂.nd }
      obtain ⟨oL, esL, epL, hL, rL⟩ := B₂.ns
      have uL := ug L oL hL (Ne.symm oC'.2.2.2.1) fun p hp => (B₂.mus p hp).2.1
      obtain ⟨oD₂, hD₂, isD⟩ := lD₂
      have uD := ug D oD₂ hD₂ (Ne.symm hCD) oD'.2.2.2.2
      refine wpAny_mono (turn i v ⟨under h₂ C mu', J⟩ J C D mC mu' ys h₂ tk₂ hlt hv ⟨gU, B'.gi, B'.gf⟩ BC hJ hP hys st₂ ⟨oL, esL, epL, uL, rL⟩) (fun _ s₁ q₁ => wpAny_mono q₁ (fun _ s₂ q₂ => wpAny_mono q₂ (fun y s₃ q₃ => ?_) fun _ _ x => x) fun _ _ x => x) fun _ _ x => x
      obtain ⟨J', m₃, mu₃, h₃, tk₃, rfl, B₃, hP₃⟩ := q₃
      have nU : ∀ a, (under h₂ C mu').get? a = none → g.h.get? a = none := fun a ha => by
        cases q : g.h.get? a with
        | none => rfl
        | some o => rw [gU _ _ q] at ha; cases ha
      have nJ : ∀ a o, (under h₂ C mu').get? a = some o → J a = none → J' a = none := fun a o ha hJa => by
        cases q : J' a with
        | none => rfl
        | some sh => have := B₃.gf a sh q hJa; rw [show (under h₂ C mu').get? a = some o from ha] at this; cases this
      have nM : ∀ a o, (under h₂ C mu').get? a = some o → ∀ p ∈ mu₃, p.1 ≠ a := fun a o ha p hp q => by
        have := (B₃.mus p hp).2.2.2.1; rw [q, show (under h₂ C mu').get? a = some o from ha] at this; cases this
      have BL : Bd g e J' L m mu₃ h₃ :=
        { tG := B'.tG, base := fun b o q => B₃.base b o (gU b o q), kz := B₃.kz, gi := B'.gi.trans B₃.gi
          gf := fun a sh q hq => by
            cases r : J a with
            | none => exact nU _ (B₃.gf a sh q r)
            | some sh' => exact B'.gf a sh' r hq
          ei := B₃.ei, ef := B₃.ef, sub := B₃.sub, ns := ⟨oL, esL, epL, B₃.base _ _ uL, rL⟩, zL := B'.zL, gL := B'.gL, iL := nJ _ _ uL B'.iL
          mus := fun p hp => ⟨(B₃.mus p hp).1, nM _ _ uL p hp, (B₃.mus p hp).2.2.1, nU _ (B₃.mus p hp).2.2.2.1, (B₃.mus p hp).2.2.2.2⟩, nd := B₃.nd }
      have oC₃ : Off g e J' L mu₃ C := ⟨oC'.1, oC'.2.1, B₃.iL, oC'.2.2.2.1, fun p hp => (B₃.mus p hp).2.1⟩
      have oD₃ : Off g e J' L mu₃ D := ⟨oD'.1, oD'.2.1, nJ _ _ uD oD'.2.2.1, oD'.2.2.2.1, nM _ _ uD⟩
      have lD₃ : (Sh.list ys).At h₃ D := ⟨oD₂, B₃.base _ _ uD, isD⟩
      have st₃ : St (i + 1) h₃ := W.frame _ _ _ st₂ fun b hb o ho => by
        rcases hfp b hb with rfl | ⟨sh, q⟩
        · exact B₃.base _ _ (ug _ _ ho (fun r => noI (at_ns nC₂) r.symm) a2)
        · have hb' := hJ _ _ q
          exact B₃.base _ _ (ug _ _ ho (fun r => by rw [r, oC'.2.2.1] at hb'; cases hb') fun p hp r => by rw [← r, (B₂.mus p hp).2.2.1] at hb'; cases hb')
      have hDIt : D ≠ It := noI ⟨oD₂, hD₂, isD⟩
      refine append_at lD₃ (fun h₄ l₄ sb₄ => ?_) (by omega)
      have k₄ : ∀ b o, b ≠ D → h₃.get? b = some o → h₄.get? b = some o := fun b o hb q => (sb₄.2 b hb).trans q
      refine ⟨n - (i + 1), by omega, i + 1, J', mu₃, ys ++ [y], m₃, h₄, tk₃, rfl, hlt, rfl, ?_, BL.moveBut oD₃.1 oD₃.2.1 oD₃.2.2.1 (Ne.symm oD₃.2.2.2.1) oD₃.2.2.2.2 k₄, hJ.trans B₃.gi, hP₃, by simp [hys], B₃.ns.at' fun o => k₄ _ o hCD, l₄, oC₃, oD₃⟩
      refine W.frame _ _ _ st₃ fun b hb o ho => k₄ b o ?_ ho
      rcases hfp b hb with rfl | ⟨sh, q⟩
      · exact Ne.symm hDIt
      · exact fun r => by have := hJ _ _ q; rw [r, oD'.2.2.1] at this; cases this
    · obtain rfl : i = n := by omega
      refine W.done _ _ _ st fun h₂ tk₂ k₂ => ?_
      obtain ⟨B₂, nC₂, lD₂⟩ := kIt h₂ k₂
      exact done J C D mC mu' ys h₂ tk₂ B₂ hJ hP hys nC₂ lD₂ hCD oC' oD'
  exact codeAny_compStart_list (loop _ rfl) (W.self _ _ _ _ st₁ (loop _ rfl))
end
section
variable {prog : Program} {w : World} {A : Around} {s : Shared}
theorem let_name {x : Str} {pos : Pos} {vs : List Value} (It : Addr) (v : Value) (s' : Shared) (l : Addr) (i : Nat) (QQ : Unit → Shared → Prop) (_ : v ∈ vs) (_ : s'.heap.IsListIter It l i) (q : QQ () s') (E' : Value → Shared → Prop) :
    wpAny (model prog w) A (letOwnedTupleGo (.Name x pos) (.ref It) v) QQ E' s' := wpAny_pure q
theorem let_tup {elts : List Expr} {k : Nat} {pos : Pos} {vs : List Value} (hr : ∀ v ∈ vs, ∃ a, v = .ref a) (It : Addr) (v : Value) (s' : Shared) (l : Addr) (i : Nat) (QQ : Unit → Shared → Prop) (hv : v ∈ vs) (hit : s'.heap.IsListIter It l i) (q : QQ () s') (E' : Value → Shared → Prop) :
    wpAny (model prog w) A (letOwnedTupleGo (.Tuple elts k pos) (.ref It) v) QQ E' s' := by
  obtain ⟨a, rfl⟩ := hr v hv
  exact wpAny_letOwnedTupleGo_listiter hit q
end
section
variable {prog : Program} {w : World} {A : Around} {E : Value → Shared → Prop} {s : Shared} {env : Env} {g : Gd} {e : Ent} {I : Fz} {L : Addr} {m : Str → Option Value} {mu : List (Addr × Sh)}
/-- unpacking a list into names -/
theorem u_list {elts : List Expr} {k : Nat} {pos : Pos} {a : Addr} {vs : List Value} {Q : Unit → Shared → Prop} (hh : A.handled = none) (B : Bd g e I L m mu s.heap) (ha : (Sh.list vs).At s.heap a)
    (h : ∀ h', Bd g e I L m mu h' → wpAny (model prog w) A (assignInOrder ((assignEach elts env).map (·.2)) vs) Q E { s with heap := h' })
    (hn : (assignEach elts env).length = vs.length := by rfl) (hstar : (assignEach elts env).findIdx? (·.1) = none := by rfl) :
    wpAny (model prog w) A (assign (.Tuple elts k pos) env (.ref a)) Q E s := by
  rw [arm_assign_Tuple]
  refine wpAny_bind (wpAny_standAt ?_)
  unfold unpack
  rw [hn, hstar]
  refine wpAny_bind (wpAny_holding ?_)
  rw [show vs.length = vs.toArray.size by simp]
  refine kun_itemsOf hh ha.list fun h' k' => ?_
  exact h h' (B.keep fun b o q => k' b o (Nat.ne_of_lt (Heap.lt_size q)) q)
theorem u_tup {elts : List Expr} {k : Nat} {pos : Pos} {a : Addr} {vs : List Value} {Q : Unit → Shared → Prop} (hh : A.handled = none) (B : Bd g e I L m mu s.heap) (ha : (Sh.tup vs).At s.heap a)
    (h : ∀ h', Bd g e I L m mu h' → wpAny (model prog w) A (assignInOrder ((assignEach elts env).map (·.2)) vs) Q E { s with heap := h' })
    (hn : (assignEach elts env).length = vs.length := by rfl) (hstar : (assignEach elts env).findIdx? (·.1) = none := by rfl) :
    wpAny (model prog w) A (assign (.Tuple elts k pos) env (.ref a)) Q E s := by
  refine wpAny_assign_Tuple hh ha.tup (by rw [hn]; simp) hstar fun h' k' => ?_
  exact h h' (B.keep fun b o q => k' b o (Nat.ne_of_lt (Heap.lt_size q)) q)
theorem l_len {a : Addr} {vs : List Value} {Q : Value → Shared → Prop} (ha : (Sh.list vs).At s.heap a) (h : ∀ t tk, Q (.int (vs.length : Int) t) { s with toks := tk }) (hn : vs.length < 2 ^ 63 := by omega) :
    wpAny (model prog w) A (call (.builtin "len") [.ref a]) Q E s :=
  call_len_list ha.list (by simp only [List.size_toArray]; omega) (by simpa using h _ _)
/-- an item of a list, of a tuple -/
theorem i_list {value slice : Expr} {a : Addr} {vs : List Value} {k : Int} {u : Tok} {v : Value} {Q : Value → Shared → Prop} (ha : (Sh.list vs).At s.heap a) (h0 : 0 ≤ k) (hx : vs[k.toNat]? = some v) (h : Q v s) (hk : k < 2 ^ 63 := by omega)
    (hs : subscripted slice false (.ref a) (.int k u) = operate [.ref a, .int k u] (getItem (.ref a) (.int k u)) := by with_unfolding_all rfl) :
    wpAny (model prog w) A (subscriptTail value slice (.ref a) (.int k u)) Q E s :=
  tail_any ha.list.typeIs slot_list_getitem.lookup (wpAny_getItem_list ha.list h0 hk (by simpa using hx) h) hs
/-- a method of a list -/
theorem gm_list {name : Str} {id : String} {pl : Sem Bool} {a : Addr} {vs : List Value} {Q : Value × List Value → Shared → Prop} (ha : (Sh.list vs).At s.heap a) (slot : Slot "list" name id)
    (hty : typeOf (.builtin id) = pure (.type "method_descriptor")) (h : Q (.builtin id, [.ref a]) s) : wpAny (model prog w) A (getMethod (.ref a) name pl) Q E s :=
  getMethod_list_of slot hty ha.list ha.noDict h
theorem gm_append {pl : Sem Bool} {a : Addr} {vs : List Value} {Q : Value × List Value → Shared → Prop} (ha : (Sh.list vs).At s.heap a) (h : Q (.builtin "list.append", [.ref a]) s) : wpAny (model prog w) A (getMethod (.ref a) (Str.ofString "append") pl) Q E s :=
  let ⟨_, ho, hc, hd, _⟩ := ha; getMethod_list_append ho hc hd h
theorem gm_extend {pl : Sem Bool} {a : Addr} {vs : List Value} {Q : Value × List Value → Shared → Prop} (ha : (Sh.list vs).At s.heap a) (h : Q (.builtin "list.extend", [.ref a]) s) : wpAny (model prog w) A (getMethod (.ref a) (Str.ofString "extend") pl) Q E s :=
  gm_list ha PySem.F.slot_list_extend PySem.F.type_list_extend h
theorem l_append {a : Addr} {vs : List Value} {x : Value} {pre post : List (Addr × Sh)} {Q : Value → Shared → Prop} (B : Bd g e I L m mu s.heap) (hmu : mu = pre ++ (a, .list vs) :: post) (h : ∀ h', Bd g e I L m (pre ++ (a, .list (vs ++ [x])) :: post) h' → Q .none { s with heap := h' })
    (hsz : vs.length ≤ sizeLine := by size_fits) : wpAny (model prog w) A (call (.builtin "list.append") [.ref a, x]) Q E s :=
  append_at (B.mus (a, .list vs) (by simp [hmu])).1 (fun h' ha hs => h h' (B.upd hmu (fun b o hb q => (hs.2 b hb).trans q) ha)) hsz
theorem extend_meets (l : Addr) (items : Array Value) (n : Nat) (sl : Array (Option Value)) (b : Addr) (items2 : Array Value) (n2 : Nat) (sl2 : Array (Option Value)) (hc0 : ¬(!items.isEmpty && Builtin.List.listTooLong (items.size + items2.size)) = true) (hc1 : items.size ≤ sizeLine) (hs2 : items.size + items2.size ≤ sizeLine + 1) :
    Meets (Builtin.«list.extend» ⟨[.ref l, .ref b], []⟩) (fun _ R s => s.heap.get? l = some { cls := .type "list", dict := none, data := .seq items n, slots := sl } ∧ s.heap.get? b = some { cls := .type "list", dict := none, data := .seq items2 n2, slots := sl2 } ∧ R (.ok (.ret Value.none)) { s with heap := s.heap.update l (Obj.mapSeq fun x => x ++ items2), toks := s.toks }) :=
  .of_wp fun prog w A R s h => by
    obtain ⟨hp, g, d, tk, os⟩ := s; obtain ⟨hl, hb, h⟩ := h
    have f1 := F.sub_tuple_tuple; have f2 := F.sub_list_list; have f3 := F.sub_tuple_list; have f4 := F.sub_list_tuple
    have hz' : (items ++ items2).size ≤ sizeLine + 1 := by rw [Array.size_append]; exact hs2
    wp_walk using (wpAny_updateSeq hl rfl (hz := hc1) (_hz' := hz')), wpAny_loadPart' hl, wpAny_loadPart' hb
    exact ⟨_, rfl, h⟩
theorem l_extend {a b : Addr} {vs us : List Value} {pre post : List (Addr × Sh)} {Q : Value → Shared → Prop} (B : Bd g e I L m mu s.heap) (hmu : mu = pre ++ (a, .list vs) :: post) (hb : (Sh.list us).At s.heap b) (h : ∀ h', Bd g e I L m (pre ++ (a, .list (vs ++ us)) :: post) h' → Q .none { s with heap := h' })
    (hsz : vs.length + us.length ≤ sizeLine) : wpAny (model prog w) A (call (.builtin "list.extend") [.ref a, .ref b]) Q E s := by
  obtain ⟨⟨c1, d1, dt1, sl1⟩, ho, hc, hd, n, hdt⟩ := (B.mus (a, .list vs) (by simp [hmu])).1
  obtain ⟨⟨c2, d2, dt2, sl2⟩, ho2, hc2, hd2, n2, hdt2⟩ := hb
  simp only at hc hd hdt hc2 hd2 hdt2 ho
  subst hc hd hdt hc2 hd2 hdt2
  have hz : vs.toArray.size + us.toArray.size ≤ sizeLine := by simpa using hsz
  refine call_meets PySem.F.slot_list_extend ⟨_, ho, rfl⟩ PySem.F.entry_list_extend (PySem.F.args_list_extend_2 _ _) (extend_meets a vs.toArray n sl1 b us.toArray n2 sl2 (extend_door hz) (Nat.le_trans (Nat.le_add_right _ _) hz) (Nat.le_succ_of_le hz)) ⟨ho, ho2, ?_⟩
  refine h _ (B.upd hmu (fun b' o hb' q => (Heap.get?_update_ne _ _ _ _ hb').trans q) ?_)
  obtain ⟨n', hn'⟩ := Obj.data_mapSeq (o := { cls := .type "list", dict := none, data := .seq vs.toArray n, slots := sl1 }) rfl (fun x => x ++ us.toArray)
  exact ⟨_, Heap.get?_update_self _ ho (Obj.isFreed_of_seq hn'), by rw [Obj.cls_mapSeq], by rw [dict_mapSeq], n', by rw [hn']; simp⟩
theorem add_meets (l : Addr) (items : Array Value) (n : Nat) (sl : Array (Option Value)) (b : Addr) (items2 : Array Value) (n2 : Nat) (sl2 : Array (Option Value)) (hc0 : items.size + items2.size ≤ sizeLine) :
    Meets (Builtin.«list.__add__» ⟨[.ref l, .ref b], []⟩) (fun _ R s => s.heap.get? l = some { cls := .type "list", dict := none, data := .seq items n, slots := sl } ∧ s.heap.get? b = some { cls := .type "list", dict := none, data := .seq items2 n2, slots := sl2 } ∧ R (.ok (.ret (Value.ref s.heap.objs.size))) { s with heap := s.heap.push { cls := Value.type "list", data := Data.seq (items ++ items2) }, toks := s.toks }) :=
  .of_wp fun prog w A R s h => by
    obtain ⟨hp, g, d, tk, os⟩ := s; obtain ⟨hl, hb, h⟩ := h
    have f1 := F.sub_tuple_tuple; have f2 := F.sub_list_list; have f3 := F.sub_tuple_list; have f4 := F.sub_list_tuple
    wp_walk using wpAny_loadPart' hl, wpAny_loadPart' hb
    exact ⟨_, rfl, h⟩
theorem l_bytes {a : Addr} {vs : List Value} {ns : List Int} {Q : Value → Shared → Prop} (hh : A.handled = none) (B : Bd g e I L m mu s.heap) (ha : (Sh.list vs).At s.heap a) (hi : IntsAre vs ns) (hr : ∀ n ∈ ns, 0 ≤ n ∧ n < 256) (h : ∀ t k h', Bd g e I L m mu h' → Q (.bytes (byteArr ns) t) { s with heap := h', toks := k })
    (hz : vs.length ≤ sizeLine := by size_fits) : wpAny (model prog w) A (call (.type "bytes") [.ref a]) Q E s :=
  call_bytes_ints ha.list hi hr hz hh fun h' t k kp => h t k h' (B.keep kp)
end
noncomputable def noData : Str := Str.ofString "not enough data in stream to read uint1"
noncomputable def fmt3 (n : Int) (k : Str) (r : Int) : Str := Str.ofString "expected " ++ Str.ofString (toString n) ++ Str.ofString " bytes in a " ++ k ++ Str.ofString ", but only " ++ Str.ofString (toString r) ++ Str.ofString " remain"
noncomputable def fmt2s (n r : Int) : Str := Str.ofString "expected " ++ Str.ofString (toString n) ++ Str.ofString " bytes in a string1, but only " ++ Str.ofString (toString r) ++ Str.ofString " remain"
noncomputable def fmt2b (n r : Int) : Str := Str.ofString "expected " ++ Str.ofString (toString n) ++ Str.ofString " bytes in a bytes1, but only " ++ Str.ofString (toString r) ++ Str.ofString " remain"
section
variable {prog : Program} {w : World} {A : Around} {E : Value → Shared → Prop} {s : Shared} {env : Env} {g : Gd} {e : Ent} {I : Fz} {L : Addr} {m : Str → Option Value} {mu : List (Addr × Sh)}
set_option maxHeartbeats 2000000 in
theorem m_fmt3 {n r : Int} {k : Str} {t2 : Tok} {t t1 t3 : Tok} {Q : Value → Shared → Prop} (B : Bd g e I L m mu s.heap) (h0 : 0 ≤ n) (h1 : n < 10 ^ 10) (h2 : 0 ≤ r) (h3 : r < 10 ^ 10) (hk : k.length ≤ 1000000)
    (h : ∀ t' k' h', Bd g e I L m mu h' → Q (.str (fmt3 n k r) t') { s with heap := h', toks := k' }) :
    wpAny (model prog w) A (newTuple [.int n t1, .str k t2, .int r t3]) (fun tv s₂ => wpAny (model prog w) A (binaryOp .Mod (.str (Str.ofString "expected %d bytes in a %s, but only %d remain") t) tv) Q E s₂) E s := by
  refine wpAny_newObj_type ?_ (by show ([.int n t1, .str k t2, .int r t3] : List Value).toArray.size ≤ sizeLine; size_fits)
  refine' KPt.mod_tuple (T := ?T) (h₀ := {}) (L := s.heap.objs.size + 1) (news := [(s.heap.objs.size, { cls := .type "tuple", data := .seq #[.int n t1, .str k t2, .int r t3] })]) (fun p hp => ?a) (List.Mem.head _) ?kF ?hm (fun t' k' => ?b)
  case a =>
    cases List.mem_singleton.mp hp
    exact ⟨Heap.get?_push_size _ rfl, Nat.ne_of_lt (Nat.lt_succ_self _), rfl⟩
  case kF => kpt_eq
  case hm =>
    apply KPt.meets_tup
    intro _ _ _ _ _ _ kptH _
    obtain ⟨kptO, kptG, kptC, kptN, kptD⟩ := kptH
    rw [KPt.entry_is_r]
    unfold Builtin.Str.percentFormat
    refine wpAny_bind (wpAny_isInstance (T := "tuple") ⟨kptO, kptG, kptC⟩ KPt.sub_tt ?_)
    refine wpAny_bind (KPt.asStr_ref kptG kptD ?_)
    refine wpAny_bind (KPt.fills_ref ⟨kptO, kptG, kptC⟩ ?_)
    intro _
    kpc_if
    refine wpAny_bind (wpAny_seqItems kptG kptD ?_)
    refine wpAny_bind (wpAny_pure ?_)
    refine wpAny_bind ?_
    rw [KPc.range_list]
    refine KPc.start ?_
    intro _ _
    refine KPc.turn ?_
    kpc_check
    (repeat kpc_if)
    refine wpAny_pure ?_
    kpt_piece
    refine KPc.turn ?_
    kpc_check
    (repeat kpc_if)
    refine wpAny_bind ?_; refine wpAny_holding ?_; (repeat kpc_if); kpt_conv; refine wpAny_pure ?_; refine wpAny_pure ?_
    refine KPc.after_int (n := n) (by kpc_g) rfl (by kpc_kind) rfl h0 h1 rfl (by kpc_none) ?_; intro _ _
    refine KPc.turn ?_
    kpc_check
    (repeat kpc_if)
    refine wpAny_pure ?_
    kpt_piece
    refine KPc.turn ?_
    kpc_check
    (repeat kpc_if)
    refine wpAny_bind ?_; refine wpAny_holding ?_; (repeat kpc_if); kpt_conv; refine wpAny_pure ?_; refine wpAny_pure ?_
    refine KPc.after_str (y := k) (K := 1000000) (by kpc_g) hk (by kpc_obj) ?_; intro _ _
    refine KPc.turn ?_
    kpc_check
    (repeat kpc_if)
    refine wpAny_pure ?_
    kpt_piece
    refine KPc.turn ?_
    kpc_check
    (repeat kpc_if)
    refine wpAny_bind ?_; refine wpAny_holding ?_; (repeat kpc_if); kpt_conv; refine wpAny_pure ?_; refine wpAny_pure ?_
    refine KPc.after_int (n := r) (by kpc_g) rfl (by kpc_kind) rfl h2 h3 rfl (by kpc_none) ?_; intro _ _
    refine KPc.turn ?_
    kpc_check
    (repeat kpc_if)
    refine wpAny_pure ?_
    kpt_piece
    refine KPc.turn ?_
    kpc_check
    (repeat kpc_if)
    kpc_close
  exact h t' k' _ (B.push _)
set_option maxHeartbeats 2000000 in
theorem m_fmts {n r : Int} {t t1 t3 : Tok} {Q : Value → Shared → Prop} (B : Bd g e I L m mu s.heap) (h0 : 0 ≤ n) (h1 : n < 10 ^ 10) (h2 : 0 ≤ r) (h3 : r < 10 ^ 10)
    (h : ∀ t' k' h', Bd g e I L m mu h' → Q (.str (fmt2s n r) t') { s with heap := h', toks := k' }) :
    wpAny (model prog w) A (newTuple [.int n t1, .int r t3]) (fun tv s₂ => wpAny (model prog w) A (binaryOp .Mod (.str (Str.ofString "expected %d bytes in a string1, but only %d remain") t) tv) Q E s₂) E s := by
  refine wpAny_newObj_type ?_ (by show ([.int n t1, .int r t3] : List Value).toArray.size ≤ sizeLine; size_fits)
  refine' KPt.mod_tuple (T := ?T) (h₀ := {}) (L := s.heap.objs.size + 1) (news := [(s.heap.objs.size, { cls := .type "tuple", data := .seq #[.int n t1, .int r t3] })]) (fun p hp => ?a) (List.Mem.head _) ?kF ?hm (fun t' k' => ?b)
  case a =>
    cases List.mem_singleton.mp hp
    exact ⟨Heap.get?_push_size _ rfl, Nat.ne_of_lt (Nat.lt_succ_self _), rfl⟩
  case kF => kpt_eq
  case hm =>
    apply KPt.meets_tup
    intro _ _ _ _ _ _ kptH _
    obtain ⟨kptO, kptG, kptC, kptN, kptD⟩ := kptH
    rw [KPt.entry_is_r]
    unfold Builtin.Str.percentFormat
    refine wpAny_bind (wpAny_isInstance (T := "tuple") ⟨kptO, kptG, kptC⟩ KPt.sub_tt ?_)
    refine wpAny_bind (KPt.asStr_ref kptG kptD ?_)
    refine wpAny_bind (KPt.fills_ref ⟨kptO, kptG, kptC⟩ ?_)
    intro _
    kpc_if
    refine wpAny_bind (wpAny_seqItems kptG kptD ?_)
    refine wpAny_bind (wpAny_pure ?_)
    refine wpAny_bind ?_
    rw [KPc.range_list]
    refine KPc.start ?_
    intro _ _
    refine KPc.turn ?_
    kpc_check
    (repeat kpc_if)
    refine wpAny_pure ?_
    kpt_piece
    refine KPc.turn ?_
    kpc_check
    (repeat kpc_if)
    refine wpAny_bind ?_; refine wpAny_holding ?_; (repeat kpc_if); kpt_conv; refine wpAny_pure ?_; refine wpAny_pure ?_
    refine KPc.after_int (n := n) (by kpc_g) rfl (by kpc_kind) rfl h0 h1 rfl (by kpc_none) ?_; intro _ _
    refine KPc.turn ?_
    kpc_check
    (repeat kpc_if)
    refine wpAny_pure ?_
    kpt_piece
    refine KPc.turn ?_
    kpc_check
    (repeat kpc_if)
    refine wpAny_bind ?_; refine wpAny_holding ?_; (repeat kpc_if); kpt_conv; refine wpAny_pure ?_; refine wpAny_pure ?_
    refine KPc.after_int (n := r) (by kpc_g) rfl (by kpc_kind) rfl h2 h3 rfl (by kpc_none) ?_; intro _ _
    refine KPc.turn ?_
    kpc_check
    (repeat kpc_if)
    refine wpAny_pure ?_
    kpt_piece
    refine KPc.turn ?_
    kpc_check
    (repeat kpc_if)
    kpc_close
  exact h t' k' _ (B.push _)
set_option maxHeartbeats 2000000 in
theorem m_fmtb {n r : Int} {t t1 t3 : Tok} {Q : Value → Shared → Prop} (B : Bd g e I L m mu s.heap) (h0 : 0 ≤ n) (h1 : n < 10 ^ 10) (h2 : 0 ≤ r) (h3 : r < 10 ^ 10)
    (h : ∀ t' k' h', Bd g e I L m mu h' → Q (.str (fmt2b n r) t') { s with heap := h', toks := k' }) :
    wpAny (model prog w) A (newTuple [.int n t1, .int r t3]) (fun tv s₂ => wpAny (model prog w) A (binaryOp .Mod (.str (Str.ofString "expected %d bytes in a bytes1, but only %d remain") t) tv) Q E s₂) E s := by
  refine wpAny_newObj_type ?_ (by show ([.int n t1, .int r t3] : List Value).toArray.size ≤ sizeLine; size_fits)
  refine' KPt.mod_tuple (T := ?T) (h₀ := {}) (L := s.heap.objs.size + 1) (news := [(s.heap.objs.size, { cls := .type "tuple", data := .seq #[.int n t1, .int r t3] })]) (fun p hp => ?a) (List.Mem.head _) ?kF ?hm (fun t' k' => ?b)
  case a =>
    cases List.mem_singleton.mp hp
    exact ⟨Heap.get?_push_size _ rfl, Nat.ne_of_lt (Nat.lt_succ_self _), rfl⟩
  case kF => kpt_eq
  case hm =>
    apply KPt.meets_tup
    intro _ _ _ _ _ _ kptH _
    obtain ⟨kptO, kptG, kptC, kptN, kptD⟩ := kptH
    rw [KPt.entry_is_r]
    unfold Builtin.Str.percentFormat
    refine wpAny_bind (wpAny_isInstance (T := "tuple") ⟨kptO, kptG, kptC⟩ KPt.sub_tt ?_)
    refine wpAny_bind (KPt.asStr_ref kptG kptD ?_)
    refine wpAny_bind (KPt.fills_ref ⟨kptO, kptG, kptC⟩ ?_)
    intro _
    kpc_if
    refine wpAny_bind (wpAny_seqItems kptG kptD ?_)
    refine wpAny_bind (wpAny_pure ?_)
    refine wpAny_bind ?_
    rw [KPc.range_list]
    refine KPc.start ?_
    intro _ _
    refine KPc.turn ?_
    kpc_check
    (repeat kpc_if)
    refine wpAny_pure ?_
    kpt_piece
    refine KPc.turn ?_
    kpc_check
    (repeat kpc_if)
    refine wpAny_bind ?_; refine wpAny_holding ?_; (repeat kpc_if); kpt_conv; refine wpAny_pure ?_; refine wpAny_pure ?_
    refine KPc.after_int (n := n) (by kpc_g) rfl (by kpc_kind) rfl h0 h1 rfl (by kpc_none) ?_; intro _ _
    refine KPc.turn ?_
    kpc_check
    (repeat kpc_if)
    refine wpAny_pure ?_
    kpt_piece
    refine KPc.turn ?_
    kpc_check
    (repeat kpc_if)
    refine wpAny_bind ?_; refine wpAny_holding ?_; (repeat kpc_if); kpt_conv; refine wpAny_pure ?_; refine wpAny_pure ?_
    refine KPc.after_int (n := r) (by kpc_g) rfl (by kpc_kind) rfl h2 h3 rfl (by kpc_none) ?_; intro _ _
    refine KPc.turn ?_
    kpc_check
    (repeat kpc_if)
    refine wpAny_pure ?_
    kpt_piece
    refine KPc.turn ?_
    kpc_check
    (repeat kpc_if)
    kpc_close
  exact h t' k' _ (B.push _)
end
structure Part where
  kind : Str
  xs : List Int
noncomputable def Part.dat (p : Part) : Dat := .list [.str p.kind, .list (p.xs.map .int)]
inductive Row where
  | three (a b c : Str)
  | two (a b : Str)
  | num (a : Str) (n : Int)
noncomputable def Row.dat : Row → Dat
  | .three a b c => .list [.str a, .str b, .str c]
  | .two a b => .list [.str a, .str b]
  | .num a n => .list [.str a, .int n]
structure Rec where
  row : Row
  parts : List Part
noncomputable def Rec.dat (r : Rec) : Dat := .list [r.row.dat, .list (r.parts.map Part.dat)]
/-- what may be relied on -/
noncomputable def Part.ok (p : Part) : Prop := p.xs.length ≤ 256 ∧ p.kind.length < 1000 ∧ ∀ x ∈ p.xs, 0 ≤ x ∧ x < 256
noncomputable def Rec.ok (r : Rec) : Prop := r.parts.length ≤ 20 ∧ ∀ p ∈ r.parts, p.ok
noncomputable def Rec.ints (r : Rec) : List Int := r.parts.flatMap (·.xs)
noncomputable def wordsF : List Part → Int → Str
  | [], _ => noData
  | p :: ps, t => if 0 < t ∧ t < (p.xs.length : Int) then fmt3 (p.xs.headD 0) p.kind (t - 1) else wordsF ps (t - (p.xs.length : Int))
section
variable {I : Fz} {vs : List Value} {v : Value}
/-- the items of a list of parts, of records -/
theorem part_at {ps : List Part} (h : DatIs I vs (ps.map Part.dat)) {i : Nat} (hv : vs[i]? = some v) : ∃ p a b tk us, ps[i]? = some p ∧ v = .ref a ∧ I a = some (.list [.str p.kind tk, .ref b]) ∧ I b = some (.list us) ∧ DatIs I us (p.xs.map .int) ∧ us.length = p.xs.length := by
  obtain ⟨d, hd, hD⟩ := h.get hv
  rw [List.getElem?_map] at hd
  cases hp : ps[i]? with
  | none => rw [hp] at hd; cases hd
  | some p =>
    rw [hp] at hd
    cases hd
    cases hD with
    | list ha hs =>
      cases hs with
      | cons h1 r1 =>
        cases r1 with
        | cons h2 r2 =>
          cases r2
          cases h1
          cases h2 with
          | list hb hbs => exact ⟨p, _, _, _, _, rfl, rfl, ha, hb, hbs, by rw [hbs.length, List.length_map]⟩
theorem rec_at {rs : List Rec} (h : DatIs I vs (rs.map Rec.dat)) {i : Nat} (hv : vs[i]? = some v) : ∃ r a rv b us, rs[i]? = some r ∧ v = .ref a ∧ I a = some (.list [rv, .ref b]) ∧ DatI I rv r.row.dat ∧ I b = some (.list us) ∧ DatIs I us (r.parts.map Part.dat) ∧ us.length = r.parts.length := by
  obtain ⟨d, hd, hD⟩ := h.get hv
  rw [List.getElem?_map] at hd
  cases hp : rs[i]? with
  | none => rw [hp] at hd; cases hd
  | some r =>
    rw [hp] at hd
    cases hd
    cases hD with
    | list ha hs =>
      cases hs with
      | cons h1 r1 =>
        cases r1 with
        | cons h2 r2 =>
          cases r2
          cases h2 with
          | list hb hbs => exact ⟨r, _, _, _, _, rfl, rfl, ha, h1, hb, hbs, by rw [hbs.length, List.length_map]⟩
theorem drop_of {α : Type} {l : List α} {i : Nat} {x : α} (h : l[i]? = some x) : l.drop i = x :: l.drop (i + 1) := by
  have hlt := (List.getElem?_eq_some_iff.mp h).1
  rw [List.drop_eq_getElem_cons hlt, (List.getElem?_eq_some_iff.mp h).2]
theorem take_of {α : Type} {l : List α} {i : Nat} {x : α} (h : l[i]? = some x) : l.take (i + 1) = l.take i ++ [x] := by rw [List.take_add_one, h]; rfl
end
section
variable {prog : Program} {w : World} {A : Around} {E : Value → Shared → Prop} {s : Shared} {env : Env} {g : Gd} {e : Ent} {I : Fz} {L : Addr} {m : Str → Option Value} {mu : List (Addr × Sh)}
/-- over the signs of a text -/
theorem for_str {x : Str} {pos : Pos} {body : List Stmt} {Q : Flow → Shared → Prop} {y : Str} {t : Tok} {EE : Value → Shared → Prop}
    (P : Nat → Fz → (Str → Option Value) → List (Addr × Sh) → Prop) (hh : A.handled = none) (B : Bd g e I env.locals m mu s.heap) (p0 : P 0 I m mu)
    (turn : ∀ i c u g' J m' mu' h tk, y.cps[i]? = some c → Over g g' → Bd g' e J env.locals m' mu' h → I.le J → P i J m' mu' →
      wpAny (model prog w) A (assign (.Name x pos) env (.str ⟨#[c]⟩ u)) (fun _ s₂ => wpAny (model prog w) A (execs body env)
        (fun f s₃ => TurnEnd Q (Goes s g' e env.locals (P (i + 1))) f s₃) (notedBy (model prog w) A env EE) s₂) (notedBy (model prog w) A env EE) { s with heap := h, toks := tk })
    (done : ∀ J m' mu' h tk, Bd g e J env.locals m' mu' h → I.le J → P y.cps.size J m' mu' → Q .next { s with heap := h, toks := tk }) :
    wpAny (model prog w) A (pyIter (.str y t)) (fun it s₂ => codeAny (model prog w) A (.forLoop (.Name x pos) it body [] env) (fun r s' => match r with | .ok f => Q f s' | .error x => EE x s') s₂) E s := by
  have main : ∀ (T : String) (W : Walks prog w A s.heap.objs.size [s.heap.objs.size] [s.heap.objs.size] y.cps.size (SignAt y) (fun i h => h.IsStrIter s.heap.objs.size T y t i)),
      codeAny (model prog w) A (.forLoop (.Name x pos) (.ref s.heap.objs.size) body [] env) (fun r s' => match r with | .ok f => Q f s' | .error x => EE x s') { s with heap := s.heap.push { cls := .type T, data := .fields #[.str y t, .int 0 0] } } := by
    intro T W
    refine for_walk (s := { s with heap := _ }) P W ?_ (fun b hb => .inl (List.mem_singleton.mp hb)) (B.g_of (fresh _)) ⟨_, Heap.get?_push_size _ rfl, rfl, rfl⟩ (B.push _) p0 ?_ ?_
    · rintro i h ⟨o, ho, _, hd⟩; exact ⟨o, _, ho, hd⟩
    · rintro i v g' J m' mu' h tk hi ⟨c, u, hc, rfl⟩ ov B' hJ hP st
      exact wpAny_pure (turn i c u g' J m' mu' h tk hc ov B' hJ hP)
    · exact fun J m' mu' h tk B' hJ hP => done J m' mu' h tk B' hJ hP
  cases ha : y.cps.all (· < 128)
  · exact wpAny_pyIter_wide ha (main _ (Walks.strWide hh _ y t))
  · exact wpAny_pyIter_ascii ha (main _ (Walks.strAscii hh _ y t))
/-- cuts of a text, the slice's object just made -/
theorem ts_ns {value slice : Expr} {x : Str} {t uj : Tok} {j : Int} {a : Addr} {H : Heap} {Q : Value → Shared → Prop} (hH : s.heap = H.push { cls := .type "slice", data := .fields #[.none, .int j uj, .none] }) (ha : a = H.objs.size) (B : Bd g e I L m mu H)
    (h : ∀ t' k h', (Txt.slice x none (some j)).length ≤ x.length → Bd g e I L m mu h' → Q (.str (Txt.slice x none (some j)) t') { s with heap := h', toks := k }) (hsz : x.length ≤ sizeLine)
    (hs : subscripted slice false (.str x t) (.ref a) = operate [.ref a, .str x t] (getItem (.str x t) (.ref a))) :
    wpAny (model prog w) A (subscriptTail value slice (.str x t) (.ref a)) Q E s := by
  subst ha
  refine tail_any (typeIs_str _ _ _) PySem.F.slot_str_getitem.lookup (wpAny_getItem_str_slice (l := none) (u := some (j, uj)) (st := none) (by rw [hH]; exact ⟨_, Heap.get?_push_size _ rfl, rfl, rfl⟩) rfl
    (post_val_or_str ⟨Nat.le_trans (Txt.slice_le x _ _) hsz, fun t' k => ?_⟩)) hs
  exact h t' k s.heap (Txt.slice_le x _ _) (by rw [hH]; exact B.push _)
theorem ts_sn {value slice : Expr} {x : Str} {t ui : Tok} {i : Int} {a : Addr} {H : Heap} {Q : Value → Shared → Prop} (hH : s.heap = H.push { cls := .type "slice", data := .fields #[.int i ui, .none, .none] }) (ha : a = H.objs.size) (B : Bd g e I L m mu H)
    (h : ∀ t' k h', (Txt.slice x (some i) none).length ≤ x.length → Bd g e I L m mu h' → Q (.str (Txt.slice x (some i) none) t') { s with heap := h', toks := k }) (hsz : x.length ≤ sizeLine)
    (hs : subscripted slice false (.str x t) (.ref a) = operate [.ref a, .str x t] (getItem (.str x t) (.ref a))) :
    wpAny (model prog w) A (subscriptTail value slice (.str x t) (.ref a)) Q E s := by
  subst ha
  refine tail_any (typeIs_str _ _ _) PySem.F.slot_str_getitem.lookup (wpAny_getItem_str_slice (l := some (i, ui)) (u := none) (st := none) (by rw [hH]; exact ⟨_, Heap.get?_push_size _ rfl, rfl, rfl⟩) rfl
    (post_val_or_str ⟨Nat.le_trans (Txt.slice_le x _ _) hsz, fun t' k => ?_⟩)) hs
  exact h t' k s.heap (Txt.slice_le x _ _) (by rw [hH]; exact B.push _)
theorem ts_ss {value slice : Expr} {x : Str} {t ui uj : Tok} {i j : Int} {a : Addr} {H : Heap} {Q : Value → Shared → Prop} (hH : s.heap = H.push { cls := .type "slice", data := .fields #[.int i ui, .int j uj, .none] }) (ha : a = H.objs.size) (B : Bd g e I L m mu H)
    (h : ∀ t' k h', (Txt.slice x (some i) (some j)).length ≤ x.length → Bd g e I L m mu h' → Q (.str (Txt.slice x (some i) (some j)) t') { s with heap := h', toks := k }) (hsz : x.length ≤ sizeLine)
    (hs : subscripted slice false (.str x t) (.ref a) = operate [.ref a, .str x t] (getItem (.str x t) (.ref a))) :
    wpAny (model prog w) A (subscriptTail value slice (.str x t) (.ref a)) Q E s := by
  subst ha
  refine tail_any (typeIs_str _ _ _) PySem.F.slot_str_getitem.lookup (wpAny_getItem_str_slice (l := some (i, ui)) (u := some (j, uj)) (st := none) (by rw [hH]; exact ⟨_, Heap.get?_push_size _ rfl, rfl, rfl⟩) rfl
    (post_val_or_str ⟨Nat.le_trans (Txt.slice_le x _ _) hsz, fun t' k => ?_⟩)) hs
  exact h t' k s.heap (Txt.slice_le x _ _) (by rw [hH]; exact B.push _)
/-- a cut of a list -/
theorem ls_cut {value slice : Expr} {a c : Addr} {vs : List Value} {vl vu : Value} {lo hi : Option Int} {H : Heap} {Q : Value → Shared → Prop} (hH : s.heap = H.push { cls := .type "slice", data := .fields #[vl, vu, .none] }) (hc : c = H.objs.size) (B : Bd g e I L m mu H)
    (ha : H.IsList a vs.toArray) (pl : IsPart vl lo) (pu : IsPart vu hi)
    (h : ∀ b h' J, Bd g e J L m mu h' → I.le J → J b = some (.list (slicePick vs.toArray lo hi none).toList) → Q (.ref b) { s with heap := h' }) (hsz : vs.length ≤ sizeLine)
    (hs : subscripted slice false (.ref a) (.ref c) = operate [.ref c, .ref a] (getItem (.ref a) (.ref c))) :
    wpAny (model prog w) A (subscriptTail value slice (.ref a) (.ref c)) Q E s := by
  subst hc
  have B' : Bd g e I L m mu s.heap := by rw [hH]; exact B.push _
  have ha' : s.heap.IsList a vs.toArray := by rw [hH]; exact ha.push _
  refine tail_any ha'.typeIs list_getitem_lookup (wpAny_getItem_list_slice ha' (by rw [hH]; exact Heap.IsSliceOf.new ..) pl pu .none (by simp) ?_ (by simpa using hsz)) hs
  exact h _ _ _ (B'.alloc (o := { cls := .type "list", data := .seq (slicePick vs.toArray lo hi none) }) (sh := .list (slicePick vs.toArray lo hi none).toList) ⟨rfl, rfl, 0, by rw [Array.toArray_toList]⟩ rfl) (Fz.le_put _ (B'.none_of (fresh _))) (Fz.put_self _ _ _)
/-- two lists glued -/
theorem l_add {a b : Addr} {vs us : List Value} {Q : Value → Shared → Prop} (B : Bd g e I L m mu s.heap) (ha : (Sh.list vs).At s.heap a) (hb : (Sh.list us).At s.heap b) (h : ∀ c h' J, Bd g e J L m mu h' → I.le J → J c = some (.list (vs ++ us)) → Q (.ref c) { s with heap := h' })
    (hsz : vs.length + us.length ≤ sizeLine := by size_fits) : wpAny (model prog w) A (binaryOp .Add (.ref a) (.ref b)) Q E s := by
  obtain ⟨⟨c1, d1, dt1, sl1⟩, ho, hc, hd, n, hdt⟩ := ha
  obtain ⟨⟨c2, d2, dt2, sl2⟩, ho2, hc2, hd2, n2, hdt2⟩ := hb
  simp only at hc hd hdt hc2 hd2 hdt2
  subst hc hd hdt hc2 hd2 hdt2
  refine concat_meets ⟨_, ho, rfl⟩ ⟨_, ho2, rfl⟩ noFill_list_add seq_list_add F.slot_list_add F.entry_list_add (F.args_list_add_2 _ _) (add_meets a vs.toArray n sl1 b us.toArray n2 sl2 (by simpa using hsz)) ⟨ho, ho2, ?_⟩
  exact h _ _ _ (B.alloc (o := { cls := .type "list", data := .seq (vs.toArray ++ us.toArray) }) (sh := .list (vs ++ us)) ⟨rfl, rfl, 0, by simp⟩ rfl) (Fz.le_put _ (B.none_of (fresh _))) (Fz.put_self _ _ _)
theorem i_tup {value slice : Expr} {a : Addr} {vs : List Value} {k : Int} {u : Tok} {v : Value} {Q : Value → Shared → Prop} (ha : (Sh.tup vs).At s.heap a) (h0 : 0 ≤ k) (hx : vs[k.toNat]? = some v) (h : Q v s) (hk : k < 2 ^ 63 := by omega)
    (hs : subscripted slice false (.ref a) (.int k u) = operate [.ref a, .int k u] (getItem (.ref a) (.int k u)) := by with_unfolding_all rfl) :
    wpAny (model prog w) A (subscriptTail value slice (.ref a) (.int k u)) Q E s := by
  have hlt := (List.getElem?_eq_some_iff.mp hx).1
  refine item_tupleT ha.tup (by omega) hk (j := k.toNat) ?_ hx h hs
  unfold seqIndex?
  simp only [show ¬ k < 0 by omega, if_false]
  have : k < (vs.length : Int) := by omega
  simp [h0, this]
/-- comprehensions over a frozen list -/
theorem comp_list {elt target iter : Expr} {scope : Scope} {pos : Pos} {cl : List (Str × Addr)} {a : Addr} {vs : List Value} {RR : Value → Addr → Result → Shared → Prop}
    (P : Nat → Fz → List (Addr × Sh) → List Value → Prop) (hh : A.handled = none) (B : Bd g e I L m mu s.heap) (ha : I a = some (.list vs)) (p0 : P 0 I mu []) (hn : vs.length ≤ sizeLine)
    (hcell : ∀ x ∈ scope.names, x.2 ≠ .cell) (hkind : scope.kind = .function)
    (hlet : ∀ (It : Addr) (v : Value) (s' : Shared) (l : Addr) (i : Nat) (QQ : Unit → Shared → Prop), v ∈ vs → s'.heap.IsListIter It l i → QQ () s' → ∀ E', wpAny (model prog w) A (letOwnedTupleGo target (.ref It) v) QQ E' s')
    (turn : ∀ i v g' J C D m' mu' ys h tk, vs[i]? = some v → Over g g' → Bd g' e J C m' mu' h → I.le J → P i J mu' ys → ys.length = i → g'.h.Ns L m →
      wpAny (model prog w) A (assign target (compEnvC scope cl C env) v) (fun _ s₂ => wpAny (model prog w) A (eval elt (compEnvC scope cl C env))
        (fun y s₃ => Goes s g' e C (fun J' _ mu'' => P (i + 1) J' mu'' (ys ++ [y])) s₃) (notedBy (model prog w) A (compEnvC scope cl C env) fun x s' => RR (.ref D) C (.error x) s') s₂)
        (notedBy (model prog w) A (compEnvC scope cl C env) fun x s' => RR (.ref D) C (.error x) s') { s with heap := h, toks := tk })
    (done : ∀ J C D mC mu' ys h tk, Bd g e J L m mu' h → I.le J → P vs.length J mu' ys → ys.length = vs.length → h.Ns C mC → (Sh.list ys).At h D → C ≠ D → Off g e J L mu' C → Off g e J L mu' D → RR (.ref D) C (.ok .next) { s with heap := h, toks := tk }) :
    wpAny (model prog w) A (pyIter (.ref a)) (fun it s₂ => wpAny (model prog w) A (newList []) (fun acc s₃ => wpAny (model prog w) A (newFunctionEnv scope env.globals cl [] env.qual none .none (some env)) (fun cenv s₄ =>
      codeAny (model prog w) A (.compStart (.ListComp elt [⟨target, iter, [], 0⟩] scope pos) 0 it acc { cenv with scope := relabel scope env }) (RR acc cenv.locals) s₄) E s₃) E s₂) E s := by
  have hl := (B.sub _ _ ha).list
  refine wpAny_pyIter_list hl ?_
  have hne : a ≠ s.heap.objs.size := Nat.ne_of_lt (B.sub _ _ ha).lt
  have W := Walks.list (prog := prog) (w := w) hh s.heap.objs.size a hne vs.toArray
  rw [show vs.toArray.size = vs.length by simp] at W
  refine comp_walk (s := { s with heap := _ }) P W ?_ ?_ (B.g_of (fresh _)) ⟨⟨_, Heap.get?_push_size _ rfl, rfl, rfl⟩, hl.at fun o q => Heap.get?_push_of_some _ q⟩ (B.push _) p0 hn hcell hkind ?_ ?_
  · rintro i h ⟨⟨o, ho, _, hd⟩, _⟩; exact ⟨o, _, ho, hd⟩
  · intro b hb
    rcases List.mem_cons.mp hb with q | q
    · exact .inl q
    · exact .inr ⟨_, (List.mem_singleton.mp q) ▸ ha⟩
  · intro i v g' J C D m' mu' ys h tk hi hv ov B' hJ hP hys st nL
    have hv' : vs[i]? = some v := by simpa using hv
    refine hlet _ v _ _ _ _ (List.mem_of_getElem? hv') st.1 ?_ _
    exact turn i v g' J C D m' mu' ys h tk hv' ov B' hJ hP hys nL
  · exact fun J C D mC mu' ys h tk B' hJ hP hys nC lD hCD oC oD => done J C D mC mu' ys h tk B' hJ hP hys nC lD hCD oC oD
/-- comprehensions over the signs of a text -/
theorem comp_str {elt iter : Expr} {x : Str} {px : Pos} {scope : Scope} {pos : Pos} {cl : List (Str × Addr)} {y : Str} {t : Tok} {RR : Value → Addr → Result → Shared → Prop}
    (P : Nat → Fz → List (Addr × Sh) → List Value → Prop) (hh : A.handled = none) (B : Bd g e I L m mu s.heap) (p0 : P 0 I mu []) (hn : y.cps.size ≤ sizeLine)
    (hcell : ∀ x ∈ scope.names, x.2 ≠ .cell) (hkind : scope.kind = .function)
    (turn : ∀ i c u g' J C D m' mu' ys h tk, y.cps[i]? = some c → Over g g' → Bd g' e J C m' mu' h → I.le J → P i J mu' ys → ys.length = i → g'.h.Ns L m →
      wpAny (model prog w) A (assign (.Name x px) (compEnvC scope cl C env) (.str ⟨#[c]⟩ u)) (fun _ s₂ => wpAny (model prog w) A (eval elt (compEnvC scope cl C env))
        (fun y s₃ => Goes s g' e C (fun J' _ mu'' => P (i + 1) J' mu'' (ys ++ [y])) s₃) (notedBy (model prog w) A (compEnvC scope cl C env) fun x s' => RR (.ref D) C (.error x) s') s₂)
        (notedBy (model prog w) A (compEnvC scope cl C env) fun x s' => RR (.ref D) C (.error x) s') { s with heap := h, toks := tk })
    (done : ∀ J C D mC mu' ys h tk, Bd g e J L m mu' h → I.le J → P y.cps.size J mu' ys → ys.length = y.cps.size → h.Ns C mC → (Sh.list ys).At h D → C ≠ D → Off g e J L mu' C → Off g e J L mu' D → RR (.ref D) C (.ok .next) { s with heap := h, toks := tk }) :
    wpAny (model prog w) A (pyIter (.str y t)) (fun it s₂ => wpAny (model prog w) A (newList []) (fun acc s₃ => wpAny (model prog w) A (newFunctionEnv scope env.globals cl [] env.qual none .none (some env)) (fun cenv s₄ =>
      codeAny (model prog w) A (.compStart (.ListComp elt [⟨.Name x px, iter, [], 0⟩] scope pos) 0 it acc { cenv with scope := relabel scope env }) (RR acc cenv.locals) s₄) E s₃) E s₂) E s := by
  have main : ∀ (T : String) (W : Walks prog w A s.heap.objs.size [s.heap.objs.size] [s.heap.objs.size] y.cps.size (SignAt y) (fun i h => h.IsStrIter s.heap.objs.size T y t i)),
      wpAny (model prog w) A (newList []) (fun acc s₃ => wpAny (model prog w) A (newFunctionEnv scope env.globals cl [] env.qual none .none (some env)) (fun cenv s₄ =>
        codeAny (model prog w) A (.compStart (.ListComp elt [⟨.Name x px, iter, [], 0⟩] scope pos) 0 (.ref s.heap.objs.size) acc { cenv with scope := relabel scope env }) (RR acc cenv.locals) s₄) E s₃) E { s with heap := s.heap.push { cls := .type T, data := .fields #[.str y t, .int 0 0] } } := by
    intro T W
    refine comp_walk (s := { s with heap := _ }) P W ?_ (fun b hb => .inl (List.mem_singleton.mp hb)) (B.g_of (fresh _)) ⟨_, Heap.get?_push_size _ rfl, rfl, rfl⟩ (B.push _) p0 hn hcell hkind ?_ ?_
    · rintro i h ⟨o, ho, _, hd⟩; exact ⟨o, _, ho, hd⟩
    · rintro i v g' J C D m' mu' ys h tk hi ⟨c, u, hc, rfl⟩ ov B' hJ hP hys st nL
      exact wpAny_pure (turn i c u g' J C D m' mu' ys h tk hc ov B' hJ hP hys nL)
    · exact fun J C D mC mu' ys h tk B' hJ hP hys nC lD hCD oC oD => done J C D mC mu' ys h tk B' hJ hP hys nC lD hCD oC oD
  cases ha : y.cps.all (· < 128)
  · exact wpAny_pyIter_wide ha (main _ (Walks.strWide hh _ y t))
  · exact wpAny_pyIter_ascii ha (main _ (Walks.strAscii hh _ y t))
/-- a range's size -/
theorem range_size {n : Int} (hn : n ≤ 100000 ∧ -100000 ≤ n) : Builtin.Range.small 0 n 1 = true ∧ Builtin.Range.rangeSize 0 n 1 = (n.toNat : Int) := by
  constructor
  · unfold Builtin.Range.small Builtin.Range.rangeSize Builtin.Range.rangeFitsLong
    simp only [show (1 : Int) > 0 by decide, if_true]
    split <;> simp <;> omega
  · unfold Builtin.Range.rangeSize
    simp only [show (1 : Int) > 0 by decide, if_true]
    split <;> omega
theorem for_range {x : Str} {px : Pos} {body : List Stmt} {Q : Flow → Shared → Prop} {n : Int} {t : Tok} {EE : Value → Shared → Prop}
    (P : Nat → Fz → (Str → Option Value) → List (Addr × Sh) → Prop) (hh : A.handled = none) (B : Bd g e I env.locals m mu s.heap) (hn : n ≤ 100000 ∧ -100000 ≤ n) (p0 : P 0 I m mu)
    (turn : ∀ (i : Nat) u g' J m' mu' h tk, i < n.toNat → Over g g' → Bd g' e J env.locals m' mu' h → I.le J → P i J m' mu' →
      wpAny (model prog w) A (assign (.Name x px) env (.int (i : Int) u)) (fun _ s₂ => wpAny (model prog w) A (execs body env)
        (fun f s₃ => TurnEnd Q (Goes s g' e env.locals (P (i + 1))) f s₃) (notedBy (model prog w) A env EE) s₂) (notedBy (model prog w) A env EE) { s with heap := h, toks := tk })
    (done : ∀ J m' mu' h tk, Bd g e J env.locals m' mu' h → I.le J → P n.toNat J m' mu' → Q .next { s with heap := h, toks := tk }) :
    wpAny (model prog w) A (call (.type "range") [.int n t]) (fun xv s₁ => wpAny (model prog w) A (pyIter xv) (fun it s₂ => codeAny (model prog w) A (.forLoop (.Name x px) it body [] env) (fun r s' => match r with | .ok f => Q f s' | .error x => EE x s') s₂) E s₁) E s := by
  refine call_range_1 (wpAny_pyIter_range (IsRange.new ..) (range_size hn).1 ?_)
  rw [(range_size hn).2]
  generalize hH : s.heap.push _ = H
  have BH : Bd g e I env.locals m mu H := hH ▸ B.push _
  refine for_walk (s := { s with heap := _, toks := _ }) P (Walks.range hh H.objs.size 0 1 n.toNat) ?_ (fun b hb => .inl (List.mem_singleton.mp hb)) (BH.g_of (fresh _)) ?_ (BH.push _) p0 ?_ ?_
  · intro i h st; exact ⟨_, _, st, rfl⟩
  · have := Heap.get?_push_size H (o := { cls := .type "range_iterator", data := .fields #[rawInt 0, rawInt (n.toNat : Int), rawInt 1] }) rfl
    simpa [IsRangeIter] using this
  · rintro i v g' J m' mu' h tk hi ⟨u, rfl⟩ ov B' hJ hP st
    refine wpAny_pure ?_
    rw [show (0 : Int) + (i : Int) * 1 = (i : Int) by omega]
    exact turn i u g' J m' mu' h tk hi ov B' hJ hP
  · exact fun J m' mu' h tk B' hJ hP => done J m' mu' h tk B' hJ hP
theorem comp_range {elt iter : Expr} {x : Str} {px : Pos} {scope : Scope} {pos : Pos} {cl : List (Str × Addr)} {n : Int} {t : Tok} {RR : Value → Addr → Result → Shared → Prop}
    (P : Nat → Fz → List (Addr × Sh) → List Value → Prop) (hh : A.handled = none) (B : Bd g e I L m mu s.heap) (hn : n ≤ 100000 ∧ -100000 ≤ n) (p0 : P 0 I mu [])
    (hcell : ∀ x ∈ scope.names, x.2 ≠ .cell) (hkind : scope.kind = .function)
    (turn : ∀ (i : Nat) u g' J C D m' mu' ys h tk, i < n.toNat → Over g g' → Bd g' e J C m' mu' h → I.le J → P i J mu' ys → ys.length = i → g'.h.Ns L m →
      wpAny (model prog w) A (assign (.Name x px) (compEnvC scope cl C env) (.int (i : Int) u)) (fun _ s₂ => wpAny (model prog w) A (eval elt (compEnvC scope cl C env))
        (fun y s₃ => Goes s g' e C (fun J' _ mu'' => P (i + 1) J' mu'' (ys ++ [y])) s₃) (notedBy (model prog w) A (compEnvC scope cl C env) fun x s' => RR (.ref D) C (.error x) s') s₂)
        (notedBy (model prog w) A (compEnvC scope cl C env) fun x s' => RR (.ref D) C (.error x) s') { s with heap := h, toks := tk })
    (done : ∀ J C D mC mu' ys h tk, Bd g e J L m mu' h → I.le J → P n.toNat J mu' ys → ys.length = n.toNat → h.Ns C mC → (Sh.list ys).At h D → C ≠ D → Off g e J L mu' C → Off g e J L mu' D → RR (.ref D) C (.ok .next) { s with heap := h, toks := tk }) :
    wpAny (model prog w) A (call (.type "range") [.int n t]) (fun xv s₁ => wpAny (model prog w) A (pyIter xv) (fun it s₂ => wpAny (model prog w) A (newList []) (fun acc s₃ => wpAny (model prog w) A (newFunctionEnv scope env.globals cl [] env.qual none .none (some env)) (fun cenv s₄ =>
      codeAny (model prog w) A (.compStart (.ListComp elt [⟨.Name x px, iter, [], 0⟩] scope pos) 0 it acc { cenv with scope := relabel scope env }) (RR acc cenv.locals) s₄) E s₃) E s₂) E s₁) E s := by
  refine call_range_1 (wpAny_pyIter_range (IsRange.new ..) (range_size hn).1 ?_)
  rw [(range_size hn).2]
  generalize hH : s.heap.push _ = H
  have BH : Bd g e I L m mu H := hH ▸ B.push _
  refine comp_walk (s := { s with heap := _, toks := _ }) P (Walks.range hh H.objs.size 0 1 n.toNat) ?_ (fun b hb => .inl (List.mem_singleton.mp hb)) (BH.g_of (fresh _)) ?_ (BH.push _) p0 (by rw [sizeLine_eq]; omega) hcell hkind ?_ ?_
  · intro i h st; exact ⟨_, _, st, rfl⟩
  · have := Heap.get?_push_size H (o := { cls := .type "range_iterator", data := .fields #[rawInt 0, rawInt (n.toNat : Int), rawInt 1] }) rfl
    simpa [IsRangeIter] using this
  · rintro i v g' J C D m' mu' ys h tk hi ⟨u, rfl⟩ ov B' hJ hP hys st nL
    refine wpAny_pure ?_
    rw [show (0 : Int) + (i : Int) * 1 = (i : Int) by omega]
    exact turn i u g' J C D m' mu' ys h tk hi ov B' hJ hP hys nL
  · exact fun J C D mC mu' ys h tk B' hJ hP hys nC lD hCD oC oD => done J C D mC mu' ys h tk B' hJ hP hys nC lD hCD oC oD
end
section
variable {prog : Program} {w : World} {A : Around} {E : Value → Shared → Prop} {s : Shared} {env : Env} {g : Gd} {e : Ent} {I J : Fz} {L : Addr} {m : Str → Option Value} {mu : List (Addr × Sh)} {mg mb : Str → Option Value} {fa : Nat → Addr}
/-- into a def with two cells that changes nothing else -/
theorem c_inC2 {Q : Value → Shared → Prop} (n : Nat) {args : List Value} {binds : List (Str × Value)} {Gt : Heap} {x1 x2 : Str} {v1 v2 : Option Value} (T : Tops mg mb fa Gt) (hG : Gt.StaysIn s.heap) (hR : A.depth < recursionLimit) (hI : ∀ a sh, I a = some sh → sh.At s.heap a)
    (hb : ∀ doc pm an cd, bindArgs (fnX (fnName n) (fnName n) (fnParams n) (fnBody n) (fnScope n) [] .none .none doc pm an cd .none) ⟨args, []⟩ = pure binds)
    (h : ∀ cd h₀ tk, Bd ⟨s.heap, I⟩ ⟨Fz.nil, I, Gt⟩ I s.heap.objs.size (bindL (envX (fnName n) (fnScope n) s.heap.objs.size (fa n) cd [(x2, s.heap.objs.size + 2), (x1, s.heap.objs.size + 1)]).kindOf binds fun _ => none) [(s.heap.objs.size + 1, .cell v1), (s.heap.objs.size + 2, .cell v2)] h₀ →
      wpAny (model prog w) (A.deeper (envX (fnName n) (fnScope n) s.heap.objs.size (fa n) cd [(x2, s.heap.objs.size + 2), (x1, s.heap.objs.size + 1)])) (execs (fnBody n) (envX (fnName n) (fnScope n) s.heap.objs.size (fa n) cd [(x2, s.heap.objs.size + 2), (x1, s.heap.objs.size + 1)]))
        (fun f s' => Q (match f with | .ret v => v | _ => .none) s') (fun _ _ => False) { s with heap := h₀, toks := tk })
    (hn : n ∈ [1, 2, 3, 9, 11, 12, 13, 14, 15, 16, 17, 18, 19]) (hcl : ∀ k, cellsFrom k (fnScope n).names [] = [(x2, k + 1), (x1, k)]) (h12 : (x1 == x2) = false)
    (hk1 : ∀ cd, bindC (envX (fnName n) (fnScope n) s.heap.objs.size (fa n) cd [(x2, s.heap.objs.size + 2), (x1, s.heap.objs.size + 1)]).kindOf binds (fun _ => none) x1 = v1)
    (hk2 : ∀ cd, bindC (envX (fnName n) (fnScope n) s.heap.objs.size (fa n) cd [(x2, s.heap.objs.size + 2), (x1, s.heap.objs.size + 1)]).kindOf binds (fun _ => none) x2 = v2)
    (hkind : ∀ k, ∀ x ∈ binds, (fnScope n).names.lookup x.1 = some .local ∨ ((fnScope n).names.lookup x.1 = some .cell ∧ ((cellsFrom k (fnScope n).names []).lookup x.1).isSome = true))
    (hco : (fnScope n).isCoroutine = false) (hgen : (fnScope n).isGenerator = false) (hk : (fnScope n).kind = .function) :
    wpAny (model prog w) A (call (.ref (fa n)) args) Q E s := by
  obtain ⟨o, doc, pm, an, cd, h1, h2, h3⟩ := (T.fn n hn).2
  refine wpAny_call (codeAny_call_cells (fd := fnX (fnName n) (fnName n) (fnParams n) (fnBody n) (fnScope n) [] .none .none doc pm an cd .none) hR (hG _ _ h1) h2 (T.nolimit.keeps hG) (h3.keeps hG) rfl (hb doc pm an cd) rfl (hkind _) (fun s₁ x => ?_) hco hgen hk)
  have he : callEnvC (fnX (fnName n) (fnName n) (fnParams n) (fnBody n) (fnScope n) [] .none .none doc pm an cd .none) s.heap.objs.size (fa n) = envX (fnName n) (fnScope n) s.heap.objs.size (fa n) cd [(x2, s.heap.objs.size + 2), (x1, s.heap.objs.size + 1)] := by
    show envX (fnName n) (fnScope n) s.heap.objs.size (fa n) cd (cellsFrom (s.heap.objs.size + 1) (fnScope n).names []) = _
    rw [hcl]
  rw [he] at x ⊢
  obtain ⟨h₀, tk, rfl⟩ := x.toInCall.same
  have c1 : h₀.IsCell (s.heap.objs.size + 1) v1 := by rw [← hk1 cd]; exact x.cell x1 _ (by show List.lookup x1 [(x2, s.heap.objs.size + 2), (x1, s.heap.objs.size + 1)] = _; rw [List.lookup_cons, h12]; simp)
  have c2 : h₀.IsCell (s.heap.objs.size + 2) v2 := by rw [← hk2 cd]; exact x.cell x2 _ (by show List.lookup x2 [(x2, s.heap.objs.size + 2), (x1, s.heap.objs.size + 1)] = _; rw [List.lookup_cons]; simp)
  have B := Bd.enter (I := I) hG hI x.toInCall.ns x.toInCall.keep
  have off : ∀ k, s.heap.get? (s.heap.objs.size + k) = none := fun k => Heap.get?_none_of_le (Nat.le_add_right _ _)
  have nI : ∀ k, I (s.heap.objs.size + k) = none := fun k => by
    cases q : I (s.heap.objs.size + k) with
    | none => rfl
    | some sh => exact absurd (hI _ sh q).lt (Nat.not_lt.mpr (Nat.le_add_right _ _))
  have B2 := B.hold (at_cell c2) (nI 2) (off 2) rfl (Nat.ne_of_gt (Nat.lt_add_of_pos_right (by decide))) (fun _ hp => nomatch hp)
  have B1 := B2.hold (at_cell c1) (nI 1) (off 1) rfl (Nat.ne_of_gt (Nat.lt_add_of_pos_right (by decide))) (fun p hp => by cases List.mem_singleton.mp hp; exact Nat.ne_of_gt (Nat.lt_succ_self _))
  exact wpAny_mono (h cd h₀ tk B1) (fun _ _ q => q) fun _ _ q => q.elim
/-- a comprehension as a value -/
theorem lc_none {elt target iter : Expr} {scope : Scope} {pos : Pos} {cl : List (Str × Addr)} {Q : Value → Shared → Prop} (hclo : closureFor scope env = pure cl) (hs : ∀ x, foldedSetIterable iter env x = pure x) (hkind : scope.kind = .function)
    (hnames : ∀ x ∈ scope.names, x.2 = .local → scope.names.lookup x.1 = some .local)
    (h : wpAny (model prog w) A (eval iter env) (fun x s₁ => wpAny (model prog w) A (pyIter x) (fun it s₂ => wpAny (model prog w) A (newList []) (fun acc s₃ =>
      wpAny (model prog w) A (newFunctionEnv scope env.globals cl [] env.qual none .none (some env)) (fun cenv s₄ =>
        codeAny (model prog w) A (.compStart (.ListComp elt [⟨target, iter, [], 0⟩] scope pos) 0 it acc { cenv with scope := relabel scope env }) (compPost (model prog w) A E none Q acc cenv.locals) s₄) E s₃) E s₂) E s₁) E s) :
    wpAny (model prog w) A (eval (.ListComp elt [⟨target, iter, [], 0⟩] scope pos) env) Q E s := by
  rw [eval_ListComp]
  exact wpAny_comprehension_free rfl hs hclo hkind hnames h
/-- a comprehension's end, its list frozen -/
theorem comp_done {Q : Value → Shared → Prop} {C D : Addr} {mC : Str → Option Value} {ys : List Value} {h : Heap} {tk : Nat} (B : Bd g e J L m mu h) (nC : h.Ns C mC) (lD : (Sh.list ys).At h D) (hCD : C ≠ D) (oC : Off g e J L mu C) (oD : Off g e J L mu D)
    (k : ∀ h' J', Bd g e J' L m mu h' → J.le J' → J' D = some (.list ys) → Q (.ref D) { s with heap := h', toks := tk }) : compPost (model prog w) A E none Q (.ref D) C (.ok .next) { s with heap := h, toks := tk } := by
  refine ⟨mC, nC, fun h' sb => ?_⟩
  have kk : ∀ b o, b ≠ C → h.get? b = some o → h'.get? b = some o := fun b o hb q => (sb.2 b hb).trans q
  have B' := B.moveBut oC.1 oC.2.1 oC.2.2.1 (Ne.symm oC.2.2.2.1) oC.2.2.2.2 kk
  exact k h' _ (B'.freeze (lD.keep fun o => kk D o (Ne.symm hCD)) oD.2.2.1 oD.1 oD.2.1 oD.2.2.2.1 oD.2.2.2.2) (Fz.le_put _ oD.2.2.1) (Fz.put_self _ _ _)
end
/-- what is known of a heap stays known, but for some -/
noncomputable def Kept (X : List Addr) (h h' : Heap) : Prop := ∀ b (sh : Sh), b ∉ X → sh.At h b → sh.At h' b
theorem Kept.refl (X : List Addr) (h : Heap) : Kept X h h := fun _ _ _ x => x
theorem Kept.trans {X : List Addr} {h₁ h₂ h₃ : Heap} (x : Kept X h₁ h₂) (y : Kept X h₂ h₃) : Kept X h₁ h₃ := fun b sh n a => y b sh n (x b sh n a)
theorem Kept.mono {X Y : List Addr} {h h' : Heap} (k : Kept X h h') (s : ∀ b ∈ X, b ∈ Y) : Kept Y h h' := fun b sh n a => k b sh (fun q => n (s b q)) a
theorem Kept.of_slots {X : List Addr} {h h' : Heap} (k : h.UpToSlots h') : Kept X h h' := fun _ _ _ a => a.up k
theorem Kept.of_keeps {X : List Addr} {h h' : Heap} (k : ∀ b o, b ∉ X → h.get? b = some o → h'.get? b = some o) : Kept X h h' := fun b _ n a => a.keep fun o => k b o n
theorem Sh.Is.of_raw {sh : Sh} {o o' : Obj} (x : sh.Is o) (r : (Sh.raw o).Is o') : sh.Is o' := by
  obtain ⟨_, a, b, c⟩ := r
  cases sh <;> simp only [Sh.Is, a, b, c] at x ⊢ <;> exact x
/-- all of a heap but some, as a view -/
noncomputable def rawOf (h : Heap) (X : List Addr) : Fz := fun b => if b ∈ X then none else match h.get? b with
  | some o => (match o.data with | .fields _ => none | _ => some (.raw o))
  | none => none
theorem rawOf_none {h : Heap} {X : List Addr} {b : Addr} (q : b ∈ X) : rawOf h X b = none := if_pos q
theorem rawOf_fresh {h : Heap} {X : List Addr} {b : Addr} (q : h.get? b = none) : rawOf h X b = none := by
  unfold rawOf; split
  · rfl
  · rw [q]
theorem rawOf_some {h : Heap} {X : List Addr} {b : Addr} {o : Obj} (n : b ∉ X) (q : h.get? b = some o) (nf : NF o) : rawOf h X b = some (.raw o) := by
  unfold rawOf; rw [if_neg n, q]; dsimp only
  split
  · rename_i vs e; exact (nf _ e).elim
  · rfl
theorem rawOf_get {h : Heap} {X : List Addr} {b : Addr} {sh : Sh} (q : rawOf h X b = some sh) : b ∉ X ∧ sh.At h b := by
  unfold rawOf at q
  split at q
  · cases q
  · rename_i n
    refine ⟨n, ?_⟩
    split at q
    · rename_i o ho
      split at q
      · cases q
      · rename_i nf; cases q; exact ⟨o, ho, fun vs e => nf vs e, rfl, rfl, rfl⟩
    · cases q
theorem kept_of_raw {h h' : Heap} {X : List Addr} (k : ∀ a sh, rawOf h X a = some sh → sh.At h' a) : Kept X h h' := fun b sh n ⟨o, ho, is⟩ => by
  obtain ⟨o', ho', r⟩ := k b _ (rawOf_some n ho is.nf)
  exact ⟨o', ho', is.of_raw r⟩
/-- frames stay frames -/
theorem frames_kept {h h' base : Heap} {mu : List (Addr × Sh)} (k : Kept (mu.map (·.1)) h h') (km : ∀ p ∈ mu, p.2.At h' p.1) : ∀ {l : List Env}, h.FunFrames base l → h'.FunFrames base l
  | [], _ => trivial
  | _ :: _, ⟨hk, ⟨L, o, hf, hn, ho, hd⟩, hr⟩ => by
    refine ⟨hk, ?_, frames_kept k km hr⟩
    by_cases q : L ∈ mu.map (·.1)
    · obtain ⟨p, hp, rfl⟩ := List.mem_map.mp q
      obtain ⟨o', ho', is⟩ := km p hp
      exact ⟨_, o', hf, hn, ho', is.nf⟩
    · obtain ⟨o', ho', is⟩ := k L (.raw o) q ⟨o, ho, hd, rfl, rfl, rfl⟩
      exact ⟨L, o', hf, hn, ho', is.nf⟩
/-- an exception on its way -/
noncomputable def Err (Gb : Heap) (l : List Env) (fl cls : Value) (args : List Value) (mu : List (Addr × Sh)) (h : Heap) (e : Addr) (h' : Heap) : Prop :=
  ∃ t, Gb.StaysIn h' ∧ Gb.get? e = none ∧ h'.FunFrames Gb l ∧ h'.TracedAtW Gb e cls (.ref t) fl ∧ h'.TupAt t args ∧ Kept (mu.map (·.1)) h h' ∧ ∀ p ∈ mu, p.2.At h' p.1
section
variable {M : Model} {A : Around} {E : Value → Shared → Prop} {s : Shared} {Gb : Heap} {l : List Env} {env : Env} {g : Gd} {e : Ent} {I J : Fz} {L : Addr} {m : Str → Option Value} {mu mu' : List (Addr × Sh)} {h h' h₀ : Heap} {cls fl : Value} {args : List Value} {x : Addr} {X : List Addr}
theorem Err.there (r : Err Gb l fl cls args mu h x h') : ∃ ob, h'.get? x = some ob ∧ ob.cls = cls := let ⟨_, _, _, _, q, _⟩ := r; q.there
theorem Err.first (r : Err Gb l fl cls args mu h x h') : ∃ oe vs t, h'.get? x = some oe ∧ oe.cls = cls ∧ oe.data = .fields vs ∧ vs[0]? = some (.ref t) ∧ h'.TupAt t args :=
  let ⟨t, _, _, _, ⟨oe, vs, _, _, _, he, hc, hd, _⟩, ht, _⟩ := r; ⟨oe, vs, t, he, hc.1, hd, hc.2, ht⟩
theorem Err.keeps (r : Err Gb l fl cls args mu h x h') : Kept (mu.map (·.1)) h h' := let ⟨_, _, _, _, _, _, k, _⟩ := r; k
theorem Err.mus (r : Err Gb l fl cls args mu h x h') : ∀ p ∈ mu, p.2.At h' p.1 := let ⟨_, _, _, _, _, _, _, k⟩ := r; k
theorem Err.from (r : Err Gb l fl cls args mu h x h') (k : Kept (mu.map (·.1)) h₀ h) : Err Gb l fl cls args mu h₀ x h' := let ⟨t, a, b, c, d, e, f, g⟩ := r; ⟨t, a, b, c, d, e, k.trans f, g⟩
/-- the frame after a callee that keeps what is known -/
theorem Bd.moved (B : Bd g e I L m mu h) (k : g.h.StaysIn h') (kp : Kept (mu.map (·.1)) h h') (hm : mu'.map (·.1) = mu.map (·.1)) (km : ∀ p ∈ mu', p.2.At h' p.1) : Bd g e I L m mu' h' := by
  have no : ∀ a, (∀ p ∈ mu, p.1 ≠ a) → a ∉ mu.map (·.1) := fun a n q => by obtain ⟨p, hp, r⟩ := List.mem_map.mp q; exact n p hp r
  exact { B with
    base := k
    kz := fun a sh q => kp a sh (no a fun p hp r => by rw [← r, (B.mus p hp).2.2.2.2] at q; cases q) (B.kz a sh q)
    sub := fun a sh q => kp a sh (no a fun p hp r => by rw [← r, (B.mus p hp).2.2.1] at q; cases q) (B.sub a sh q)
    ns := (kp L _ (no L fun p hp => (B.mus p hp).2.1) (at_ns B.ns)).ns
    mus := fun p hp => by
      have q : p.1 ∈ mu.map (·.1) := hm ▸ List.mem_map_of_mem hp
      obtain ⟨p', hp', r⟩ := List.mem_map.mp q
      have := (B.mus p' hp').2
      rw [r] at this
      exact ⟨km p hp, this⟩
    nd := hm ▸ B.nd }
/-- what a frame over all but some has kept -/
theorem Bd.kept {K : Fz} {top : Heap} (B : Bd g ⟨rawOf h₀ X, K, top⟩ I L m mu h) : Kept X h₀ h := kept_of_raw B.kz
theorem Bd.frames {K : Fz} {top : Heap} (B : Bd g ⟨rawOf h₀ X, K, top⟩ I L m mu h) (hX : mu.map (·.1) = X) (hl : h₀.FunFrames Gb l) : h.FunFrames Gb l := by
  subst hX; exact frames_kept B.kept (fun p hp => (B.mus p hp).1) hl
theorem Bd.frames' {K : Fz} {top : Heap} (B : Bd g ⟨rawOf h₀ X, K, top⟩ I L m mu h) (hX : mu.map (·.1) = X) (hg : Gb.StaysIn g.h) (hl : h₀.FunFrames Gb l) (hf : env.frame = some L) (hk : env.scope.kind = .function) : h.FunFrames Gb (env :: l) :=
  Heap.FunFrames.cons (by rw [hk]; decide) hf B.ns (by
    cases q : Gb.get? L with
    | none => rfl
    | some o => have := hg _ _ q; rw [B.gL] at this; cases this) (B.frames hX hl)
/-- out of a frame by an exception just made -/
theorem out_made {K : Fz} {top : Heap} {Q : Unit → Shared → Prop} (hfr : A.frames = some (env :: l)) (hl : h₀.FunFrames Gb l) (B : Bd g ⟨rawOf h₀ X, K, top⟩ I L m mu h) (hg : Gb.StaysIn g.h) (hx : Heap.MadeExcOf h s.heap x cls args)
    (hQ : ∀ h', Err Gb l .none cls args mu h₀ x h' → Q () { s with heap := h' }) (hX : mu.map (·.1) = X := by rfl) (hf : env.frame = some L := by rfl) (hk : env.scope.kind = .function := by rfl) : wpAny M A (leaving env (.ref x)) Q E s :=
  wpAny_leaves_madeW hfr hf (fun b o q => B.base b o (hg b o q)) (B.frames' hX hg hl hf hk) hx fun h' t f1 f2 _ f4 => by
    subst hX
    obtain ⟨a, b, c, d⟩ := f1
    have k : Kept (mu.map (·.1)) h h' := (Kept.of_keeps fun b o _ => hx.keeps b o).trans (.of_slots f4)
    exact hQ h' ⟨t, a, b, c, d, f2, B.kept.trans k, fun p hp => ((B.mus p hp).1.keep fun o => hx.keeps _ o).up f4⟩
theorem out_on {Q : Unit → Shared → Prop} (hfr : A.frames = some (env :: l)) (hfl : fl = .none ∨ fl = rawInt L) (r : Err Gb (env :: l) fl cls args mu h₀ x s.heap)
    (hQ : ∀ h', Err Gb l .none cls args mu h₀ x h' → Q () { s with heap := h' }) (hf : env.frame = some L := by rfl) : wpAny M A (leaving env (.ref x)) Q E s := by
  obtain ⟨t, a, b, c, d, f, k, km⟩ := r
  have fin : ∀ h', Heap.FlyingW Gb l x cls (.ref t) h' → s.heap.UpToSlots h' → Q () { s with heap := h' } := fun h' ⟨x1, x2, x3, x4⟩ u =>
    hQ h' ⟨t, x1, x2, x3, x4, f.of_slots u, k.trans (.of_slots u), fun p hp => (km p hp).up u⟩
  rcases hfl with rfl | rfl
  · exact wpAny_leaves_onW hfr hf ⟨a, b, c, d⟩ fin
  · unfold leaving
    refine wpAny_bind (wpAny_noteFrame_againW hf d ?_)
    exact wpAny_landsW ⟨a, b, c, d⟩ fun h' ⟨x1, x2, x3, x4⟩ u => fin h' ⟨x1, x2, x3.2.2, x4⟩ u
/-- noted at a frame -/
theorem err_note {Q : Unit → Shared → Prop} (hfr : A.frames = some (env :: l)) (hfl : fl = .none ∨ fl = rawInt L) (r : Err Gb (env :: l) fl cls args mu h₀ x s.heap)
    (hQ : ∀ h', Err Gb (env :: l) (rawInt L) cls args mu h₀ x h' → Q () { s with heap := h' }) {env' : Env} (he : env'.frame = some L) (hcases : env' = env ∨ fl = rawInt L) : wpAny M A (noteFrame (.ref x) env') Q E s := by
  obtain ⟨t, a, b, c, d, f, k, km⟩ := r
  by_cases q : fl = rawInt L
  · subst q
    exact wpAny_noteFrame_againW he d (hQ s.heap ⟨t, a, b, c, d, f, k, km⟩)
  · rcases hcases with rfl | h2
    · rcases hfl with rfl | h3
      · exact wpAny_looks_onW hfr he ⟨a, b, c, d⟩ fun h' ⟨x1, x2, x3, x4⟩ u => hQ h' ⟨t, x1, x2, x3, x4, f.of_slots u, k.trans (.of_slots u), fun p hp => (km p hp).up u⟩
      · exact (q h3).elim
    · exact (q h2).elim
/-- landed -/
theorem err_land {Q : Unit → Shared → Prop} (r : Err Gb l fl cls args mu h₀ x s.heap) (hQ : ∀ h', Err Gb l .none cls args mu h₀ x h' → Q () { s with heap := h' }) : wpAny M A (setFlight (.ref x) none) Q E s := by
  obtain ⟨t, a, b, c, d, f, k, km⟩ := r
  refine wpAny_setFlight_noneW a c d fun h' k1 k2 k3 k4 => hQ h' ?_
  have u : s.heap.UpToSlots h' := fun b o hb hn => ⟨o.slots, k4 b o hb hn⟩
  exact ⟨t, k1, b, k2, k3, f.of_slots u, k.trans (.of_slots u), fun p hp => (km p hp).up u⟩
end
section
variable {prog : Program} {w : World} {A : Around} {E : Value → Shared → Prop} {s : Shared} {mg mb : Str → Option Value} {fa : Nat → Addr} {Gb Gt : Heap} {I : Fz} {l : List Env} {mu : List (Addr × Sh)}
theorem b_len {b : Array UInt8} {t : Tok} {Q : Value → Shared → Prop} (h : ∀ t' k, Q (.int (b.size : Nat) t') { s with toks := k }) (hb : b.size ≤ 1000000) : wpAny (model prog w) A (call (.builtin "len") [.bytes b t]) Q E s :=
  KBw.len_K rfl (by rw [KBw.ints_length]; omega) (by rw [KBw.ints_length]; exact h _ _)
theorem b_truthy {b : Array UInt8} {t : Tok} {Q : Bool → Shared → Prop} {v : Bool} (hv : decide (0 < b.size) = v) (h : ∀ k, Q v { s with toks := k }) (hb : b.size ≤ 1000000) : wpAny (model prog w) A (truthy (.bytes b t)) Q E s :=
  KBw.truthy_K rfl (by rw [KBw.ints_length]; omega) (by rw [KBw.ints_length, hv]; exact h _)
theorem b_item {l : List UInt8} {c : UInt8} {i : Int} {t ui : Tok} {value slice : Expr} {Q : Value → Shared → Prop} (h0 : 0 ≤ i) (hc : l[i.toNat]? = some c) (hb : l.length ≤ 1000000)
    (h : Q (.int (c.toNat : Nat) s.toks) { s with toks := s.toks + 1 })
    (hs : subscripted slice false (.bytes l.toArray t) (.int i ui) = operate [.bytes l.toArray t, .int i ui] (getItem (.bytes l.toArray t) (.int i ui)) := by with_unfolding_all rfl)
    (ht : ∀ r, letTemporaryGo value (.bytes l.toArray t) r = pure () := by intro _; with_unfolding_all rfl) : wpAny (model prog w) A (subscriptTail value slice (.bytes l.toArray t) (.int i ui)) Q E s :=
  bytes_item_K (by omega) h0 (by have := (List.getElem?_eq_some_iff.mp hc).1; omega) (by rw [List.getD_eq_getElem?_getD, hc]; rfl) h hs ht
theorem Bd.enterX {h₀ : Heap} {m : Str → Option Value} (ht : Gt.StaysIn Gb) (hgb : Gb.StaysIn s.heap) (hI : ∀ a sh, I a = some sh → sh.At s.heap a) (hmu : ∀ p ∈ mu, p.2.At s.heap p.1 ∧ I p.1 = none ∧ Gb.get? p.1 = none) (nd : (mu.map (·.1)).Nodup)
    (hn : h₀.Ns s.heap.objs.size m) (hk : ∀ b o, s.heap.get? b = some o → h₀.get? b = some o) : Bd ⟨Gb, I⟩ ⟨rawOf s.heap (mu.map (·.1)), I, Gt⟩ I s.heap.objs.size m mu h₀ where
  tG := ht
  base := fun b o q => hk b o (hgb b o q)
  kz := fun a sh q => (rawOf_get q).2.keep fun o => hk a o
  gi := Fz.le.refl _
  gf := fun a sh q hq => by rw [show I a = none from hq] at q; cases q
  ei := Fz.le.refl _
  ef := fun a sh q hq => by rw [show I a = none from hq] at q; cases q
  sub := fun a sh q => (hI a sh q).keep fun o => hk a o
  ns := hn
  zL := rawOf_fresh (Heap.get?_none_of_le (Nat.le_refl _))
  gL := by
    cases q : Gb.get? s.heap.objs.size with
    | none => rfl
    | some o => exact absurd (Heap.lt_size (hgb _ _ q)) (Nat.lt_irrefl _)
  iL := by
    cases q : I s.heap.objs.size with
    | none => rfl
    | some sh => exact absurd (hI _ sh q).lt (Nat.lt_irrefl _)
  mus := fun p hp => ⟨(hmu p hp).1.keep fun o => hk _ o, fun q => absurd (q ▸ (hmu p hp).1.lt) (Nat.lt_irrefl _), (hmu p hp).2.1, (hmu p hp).2.2, rawOf_none (List.mem_map_of_mem hp)⟩
  nd := nd
/-- into a def of the text's own that may raise or change what it is given -/
theorem c_inX {Q : Value → Shared → Prop} (n : Nat) {args : List Value} {binds : List (Str × Value)} (T : Tops mg mb fa Gt) (ht : Gt.StaysIn Gb) (hgb : Gb.StaysIn s.heap) (hR : A.depth < recursionLimit) (hI : ∀ a sh, I a = some sh → sh.At s.heap a)
    (hmu : ∀ p ∈ mu, p.2.At s.heap p.1 ∧ I p.1 = none ∧ Gb.get? p.1 = none) (nd : (mu.map (·.1)).Nodup)
    (hb : ∀ doc pm an cd, bindArgs (fnX (fnName n) (fnName n) (fnParams n) (fnBody n) (fnScope n) [] .none .none doc pm an cd .none) ⟨args, []⟩ = pure binds)
    (h : ∀ cd h₀, Bd ⟨Gb, I⟩ ⟨rawOf s.heap (mu.map (·.1)), I, Gt⟩ I s.heap.objs.size (fun x => binds.reverse.lookup x) mu h₀ →
      wpAny (model prog w) (A.deeper (envX (fnName n) (fnScope n) s.heap.objs.size (fa n) cd [])) (execs (fnBody n) (envX (fnName n) (fnScope n) s.heap.objs.size (fa n) cd []))
        (fun f s' => Q (match f with | .ret v => v | _ => .none) s')
        (fun x s' => wpAny (model prog w) (A.deeper (envX (fnName n) (fnScope n) s.heap.objs.size (fa n) cd [])) (leaving (envX (fnName n) (fnScope n) s.heap.objs.size (fa n) cd []) x) (fun _ s'' => E x s'') (fun y s'' => E y s'') s') { s with heap := h₀, toks := s.toks + binds.length })
    (hn : n ∈ [1, 2, 3, 9, 11, 12, 13, 14, 15, 16, 17, 18, 19] := by decide) (hcell : ∀ x ∈ (fnScope n).names, x.2 ≠ .cell := by decide) (hloc : ∀ x ∈ binds, (fnScope n).names.lookup x.1 = some .local)
    (hco : (fnScope n).isCoroutine = false := by rfl) (hgen : (fnScope n).isGenerator = false := by rfl) (hk : (fnScope n).kind = .function := by rfl) :
    wpAny (model prog w) A (call (.ref (fa n)) args) Q E s := by
  obtain ⟨o, doc, pm, an, cd, h1, h2, h3⟩ := (T.fn n hn).2
  have hG : Gt.StaysIn s.heap := fun b o q => hgb b o (ht b o q)
  refine wpAny_call (codeAny_call_def (fd := fnX (fnName n) (fnName n) (fnParams n) (fnBody n) (fnScope n) [] .none .none doc pm an cd .none) hR (hG _ _ h1) h2 (T.nolimit.keeps hG) (h3.keeps hG) rfl (BindsTo.of_eq (hb doc pm an cd)) hcell hloc (fun h₀ hns hk₀ => ?_) hco hgen hk)
  exact wpAny_mono (h cd h₀ (Bd.enterX ht hgb hI hmu nd hns hk₀)) (fun _ _ q => q) fun _ _ q => q
/-- into a function that closes over cells -/
theorem c_inF {Q : Value → Shared → Prop} {f : Addr} {of : Obj} {name qual : Str} {params : Arguments} {body : List Stmt} {scope : Scope} {cl : List (Str × Addr)} {doc pm cd ct : Value} {an : Option Addr} {args : List Value} {binds : List (Str × Value)} (hlim : s.heap.NoLimit)
    (ho : s.heap.get? f = some of) (hd : of.data = .func (fnX name qual params body scope cl .none .none doc pm an cd ct)) (hcd : s.heap.CodeRec cd qual) (ht : Gt.StaysIn Gb) (hgb : Gb.StaysIn s.heap) (hR : A.depth < recursionLimit) (hI : ∀ a sh, I a = some sh → sh.At s.heap a)
    (hmu : ∀ p ∈ mu, p.2.At s.heap p.1 ∧ I p.1 = none ∧ Gb.get? p.1 = none) (nd : (mu.map (·.1)).Nodup)
    (hb : bindArgs (fnX name qual params body scope cl .none .none doc pm an cd ct) ⟨args, []⟩ = pure binds)
    (h : ∀ h₀, Bd ⟨Gb, I⟩ ⟨rawOf s.heap (mu.map (·.1)), I, Gt⟩ I s.heap.objs.size (fun x => binds.reverse.lookup x) mu h₀ →
      wpAny (model prog w) (A.deeper (envX qual scope s.heap.objs.size f cd cl)) (execs body (envX qual scope s.heap.objs.size f cd cl))
        (fun f s' => Q (match f with | .ret v => v | _ => .none) s') (fun _ _ => False) { s with heap := h₀, toks := s.toks + binds.length })
    (hcell : ∀ x ∈ scope.names, x.2 ≠ .cell := by decide) (hloc : ∀ x ∈ binds, scope.names.lookup x.1 = some .local)
    (hco : scope.isCoroutine = false := by rfl) (hgen : scope.isGenerator = false := by rfl) (hk : scope.kind = .function := by rfl) :
    wpAny (model prog w) A (call (.ref f) args) Q E s := by
  refine wpAny_call (codeAny_call_def (fd := fnX name qual params body scope cl .none .none doc pm an cd ct) hR ho hd hlim hcd rfl (BindsTo.of_eq hb) hcell hloc (fun h₀ hns hk₀ => ?_) hco hgen hk)
  exact wpAny_mono (h h₀ (Bd.enterX ht hgb hI hmu nd hns hk₀)) (fun _ _ q => q) fun _ _ q => q.elim
end
open PySem.SeqAt (EqAt RcAt RcNeAt)
/-- no deeper than n -/
noncomputable def Dp : Nat → Dat → Prop
  | 0, .list _ => False
  | 0, .tuple _ => False
  | n + 1, .list ds => ∀ x ∈ ds, Dp n x
  | n + 1, .tuple ds => ∀ x ∈ ds, Dp n x
  | _, _ => True
section
variable {A : Around} {s : Shared} {J : Fz}
theorem eq_byt (b : Array UInt8) (t u : Tok) : EqAt A s (.bytes b t) (.bytes b u) true := fun prog w E Q hq => by
  unfold eqBool
  refine wpAny_holding ?_
  refine wpAny_ite_split (fun _ => wpAny_bind (wpAny_rule (wpAny_pure hq))) (fun _ => ?_)
  exact wpAny_bind (eq_bytes (wpAny_truthy_bool (by rw [beq_self_eq_true]; exact hq)))
theorem items_eq {vs us : List Value} {ds : List Dat} {A' : Around} (hv : DatIs J vs ds) (hu : DatIs J us ds) (ih : ∀ d ∈ ds, ∀ v u, DatI J v d → DatI J u d → EqAt A' s v u true) (j : Nat) (h1 : j < vs.toArray.size) (h2 : j < us.toArray.size) : EqAt A' s vs.toArray[j] us.toArray[j] true := by
  have h1' : j < vs.length := by simpa using h1
  have h2' : j < us.length := by simpa using h2
  obtain ⟨d, hd, e1⟩ := hv.get (List.getElem?_eq_getElem h1')
  obtain ⟨d', hd', e2⟩ := hu.get (List.getElem?_eq_getElem h2')
  rw [hd] at hd'
  cases hd'
  simpa using ih d (List.mem_of_getElem? hd) _ _ e1 e2
theorem all_true (n : Nat) : (List.range n).all (fun _ => true) = true := by simp
theorem eq_dat (sub : ∀ a sh, J a = some sh → sh.At s.heap a) : ∀ (n : Nat) (d : Dat) (A : Around) (v u : Value), Dp n d → A.units + n < cLine → DatI J v d → DatI J u d → EqAt A s v u true := by
  intro n
  induction n with
  | zero =>
    intro d A v u hd hA hv hu
    cases hv with
    | none => cases hu; exact .same _
    | bool b => cases hu; exact .same _
    | int i t => cases hu with | int _ t' => have := EqAt.int_int (A := A) (s := s) i t i t'; rwa [beq_self_eq_true] at this
    | str x t => cases hu with | str _ t' => have := EqAt.str_str (A := A) (s := s) x t x t'; rwa [beq_self_eq_true] at this
    | bytes b t => cases hu with | bytes _ t' => exact eq_byt _ _ _
    | tuple _ _ => exact hd.elim
    | list _ _ => exact hd.elim
  | succ n ih =>
    intro d A v u hd hA hv hu
    have hA' : A.in1.units + n < cLine := by show A.units + 1 + n < _; omega
    cases hv with
    | none => cases hu; exact .same _
    | bool b => cases hu; exact .same _
    | int i t => cases hu with | int _ t' => have := EqAt.int_int (A := A) (s := s) i t i t'; rwa [beq_self_eq_true] at this
    | str x t => cases hu with | str _ t' => have := EqAt.str_str (A := A) (s := s) x t x t'; rwa [beq_self_eq_true] at this
    | bytes b t => cases hu with | bytes _ t' => exact eq_byt _ _ _
    | tuple ha hs =>
      cases hu with
      | tuple hb hr =>
        rename_i a vs ds b us
        by_cases q : a = b
        · subst q; exact .same _
        have := RcAt.tuples (e := fun _ => true) (sub _ _ ha).tup (sub _ _ hb).tup (by omega) (items_eq hs hr fun d hm v u h1 h2 => ih d A.in1 v u (hd d hm) hA' h1 h2)
        rw [all_true, show vs.toArray.size = us.toArray.size by simp [hs.length, hr.length], beq_self_eq_true] at this
        exact .of_refs q this
    | list ha hs =>
      cases hu with
      | list hb hr =>
        rename_i a vs ds b us
        by_cases q : a = b
        · subst q; exact .same _
        have := RcAt.lists (e := fun _ => true) (sub _ _ ha).list (sub _ _ hb).list (by simp [hs.length, hr.length]) (by omega) (items_eq hs hr fun d hm v u h1 h2 => ih d A.in1 v u (hd d hm) hA' h1 h2)
        rw [all_true] at this
        exact .of_refs q this
end
section
variable {prog : Program} {w : World} {A : Around} {E : Value → Shared → Prop} {s : Shared} {J : Fz} {ds : List Dat} {v u : Value} {Q : Value → Shared → Prop}
theorem cmp_eq (sub : ∀ a sh, J a = some sh → sh.At s.heap a) (hd : Dp 5 (.list ds)) (hA : A.units + 6 < cLine) (hv : DatI J v (.list ds)) (hu : DatI J u (.list ds)) (h : Q (.bool true) s) : wpAny (model prog w) A (compareOp .Eq v u) Q E s := by
  cases hv with
  | list ha hs =>
    cases hu with
    | list hb hr =>
      refine PySem.SeqAt.eq_listAt (e := fun _ => true) (sub _ _ ha).list (sub _ _ hb).list (by simp [hs.length, hr.length]) (by omega) (items_eq hs hr fun d hm v u h1 h2 => eq_dat sub 4 d A.in1 v u (hd d hm) (by show A.units + 1 + 4 < _; omega) h1 h2) ?_
      rw [all_true]; exact h
theorem cmp_ne (sub : ∀ a sh, J a = some sh → sh.At s.heap a) (hd : Dp 5 (.list ds)) (hA : A.units + 6 < cLine) (hv : DatI J v (.list ds)) (hu : DatI J u (.list ds)) (h : Q (.bool false) s) : wpAny (model prog w) A (compareOp .NotEq v u) Q E s := by
  cases hv with
  | list ha hs =>
    cases hu with
    | list hb hr =>
      refine RcNeAt.lists (e := fun _ => true) (sub _ _ ha).list (sub _ _ hb).list (by simp [hs.length, hr.length]) (by omega) (items_eq hs hr fun d hm v u h1 h2 => eq_dat sub 4 d A.in1 v u (hd d hm) (by show A.units + 1 + 4 < _; omega) h1 h2) prog w E Q ?_
      rw [all_true]; exact h
end
local macro_rules | `(tactic| walk_at "up") => `(tactic| first
  | assumption
  | (refine Fz.up (by assumption) ?_; walk_at "up"))
local macro_rules | `(tactic| walk_at "mm") => `(tactic| first
  | with_reducible refine wpAny_execs_cons ?_
  | with_reducible refine wpAny_execs_nil ?_
  | (with_reducible refine wpAny_Assign_Name ?_ ?_; rotate_left; with_unfolding_all rfl)
  | with_reducible refine wpAny_If ?_
  | with_reducible refine wpAny_Return_some ?_
  | (with_reducible refine wpAny_Expr_any ?_ (by with_unfolding_all rfl) (by with_unfolding_all rfl))
  | with_reducible refine wpAny_BinOp ?_
  | with_reducible refine assignInOrder_cons ?_
  | with_reducible refine assignInOrder_nil ?_
  | with_reducible refine wpAny_assign_Name ?_
  | (with_reducible refine s_loc (by with_unfolding_all assumption) ?_ (by with_unfolding_all rfl) (by with_unfolding_all rfl); intro hx Bx; try dsimp only)
  | (with_reducible refine n_locQ (by with_unfolding_all rfl) (by with_unfolding_all rfl) (by with_unfolding_all assumption) (by first | with_unfolding_all rfl | with_reducible assumption | with_unfolding_all assumption) ?_ (by decide))
  | (with_reducible refine n_biQ (by with_unfolding_all rfl) (by with_unfolding_all rfl) (by with_unfolding_all rfl) (by with_unfolding_all rfl) (by with_unfolding_all (repeat (first | exact List.Mem.head _ | refine List.Mem.tail _ ?_))) (by with_unfolding_all assumption) (by with_unfolding_all assumption) ?_ (by decide))
  | (with_reducible refine l_len (by with_unfolding_all exact Bd.sub (by assumption) _ _ (by walk_at "up")) ?_ ?_; rotate_left; omega; intro tx kx; try dsimp only)
  | (with_reducible refine ts_ns (by with_unfolding_all rfl) (by with_unfolding_all rfl) (by with_unfolding_all assumption) ?_ ?_ (by with_unfolding_all rfl); rotate_left; (with_unfolding_all size_fits); intro tx kx hx lx Bx; try dsimp only)
  | (with_reducible refine ts_sn (by with_unfolding_all rfl) (by with_unfolding_all rfl) (by with_unfolding_all assumption) ?_ ?_ (by with_unfolding_all rfl); rotate_left; (with_unfolding_all size_fits); intro tx kx hx lx Bx; try dsimp only)
  | (with_reducible refine ts_ss (by with_unfolding_all rfl) (by with_unfolding_all rfl) (by with_unfolding_all assumption) ?_ ?_ (by with_unfolding_all rfl); rotate_left; (with_unfolding_all size_fits); intro tx kx hx lx Bx; try dsimp only)
  | (with_reducible refine a_list (vs := _ :: _) (by with_unfolding_all assumption) ?_ (by with_unfolding_all size_fits); intro ax hx Jx Bx lx jx; try dsimp only)
  | (with_reducible refine n_cellQ (by with_unfolding_all rfl) (by with_unfolding_all rfl) (by with_unfolding_all rfl) (by with_unfolding_all exact (Bd.mus (by assumption) (_, _) (by repeat (first | exact List.Mem.head _ | refine List.Mem.tail _ ?_))).1) ?_ (by decide))
  | (with_reducible refine lc_none (by with_unfolding_all rfl) (by intro _; with_unfolding_all rfl) (by with_unfolding_all rfl) (by with_unfolding_all decide) ?_)
  | (with_reducible refine i_list (by with_unfolding_all exact Bd.sub (by assumption) _ _ (by walk_at "up")) (by decide) (by with_unfolding_all rfl) ?_ (by decide) (by with_unfolding_all rfl))
  | (with_reducible refine i_tup (by with_unfolding_all exact Bd.sub (by assumption) _ _ (by walk_at "up")) (by decide) (by with_unfolding_all rfl) ?_ (by decide) (by with_unfolding_all rfl))
  | (with_reducible refine gm_append (by with_unfolding_all exact (Bd.mus (by assumption) (_, _) (by repeat (first | exact List.Mem.head _ | refine List.Mem.tail _ ?_))).1) ?_)
  | (with_reducible refine i_list (by with_unfolding_all exact (Bd.mus (by assumption) (_, _) (by repeat (first | exact List.Mem.head _ | refine List.Mem.tail _ ?_))).1) (by decide) (by with_unfolding_all rfl) ?_ (by decide) (by with_unfolding_all rfl))
  | (with_reducible refine n_freeQ (by with_unfolding_all rfl) (by with_unfolding_all rfl) (by with_unfolding_all assumption) (by with_unfolding_all exact Bd.sub (by assumption) _ _ (by walk_at "up")) ?_ (by decide) (by decide))
  | (with_reducible refine n_cellQ (by with_unfolding_all rfl) (by with_unfolding_all rfl) (by first | with_unfolding_all rfl | with_unfolding_all assumption) (by with_unfolding_all exact Bd.sub (by assumption) _ _ (by walk_at "up")) ?_ (by decide))
  | (with_reducible refine b_len ?_ ?_; rotate_left; (first | (simp only [List.size_toArray, List.length_take, List.length_drop, Array.length_toList]; omega) | omega); intro tx kx; try dsimp only)
  | walk1)
/-- is the sign one of 0 .. 6, as the text asks it -/
noncomputable def notD (c : Nat) : Bool := (Builtin.Str.occurrences (Str.ofString "0123456") ⟨#[c]⟩ 0 (Str.ofString "0123456").length 1).isEmpty
noncomputable def numLoop : List Nat → Int → Str → Option (Int × Str)
  | [], v, a => some (v, a)
  | c :: cs, v, a => if ((⟨#[c]⟩ : Str) == Str.ofString "_") = true then (if (a == Str.ofString "_") = true then none else numLoop cs v ⟨#[c]⟩) else if notD c = true then none else numLoop cs (10 * v + (c : Int) - 48) ⟨#[c]⟩
noncomputable def numTail (b : Bool) (y : Str) : Option Int := match numLoop y.cps.toList 0 (Str.ofString "_") with
  | none => none
  | some (v, a) => if (a == Str.ofString "_") = true then none else some (if b = true then -v else v)
noncomputable def numF (x : Str) : Option Int :=
  let y := Txt.stripChars x (Str.ofString " ")
  let b := Txt.slice y none (some 1) == Str.ofString "-"
  if b = true ∨ (Txt.slice y none (some 1) == Str.ofString "+") = true then numTail b (Txt.slice y (some 1) none) else numTail b y
/-- None, or the int -/
noncomputable def IsOpt : Option Int → Value → Prop
  | none, v => v = .none
  | some n, v => ∃ t, v = .int n t
inductive NumI (y : Str) (b : Bool) (i : Nat) (J : Fz) (m' : Str → Option Value) (mu' : List (Addr × Sh)) : Prop
  | mk (h0 : mu' = []) (h1 : m' "below" = some (.bool b)) (v : Int) (t : Tok) (a : Str) (t' : Tok) (h2 : m' "value" = some (.int v t)) (h3 : m' "ahead" = some (.str a t')) (h4 : numLoop (y.cps.toList.drop i) v a = numLoop y.cps.toList 0 (Str.ofString "_"))
section
variable {prog : Program} {w : World} {A : Around} {E : Value → Shared → Prop} {s : Shared} {mg mb : Str → Option Value} {fa : Nat → Addr} {G : Heap} {I : Fz} {g : Gd} {e : Ent} {m : Str → Option Value}
set_option maxHeartbeats 4000000 in
theorem number_tail {cd : Value} {L : Addr} {y : Str} {b : Bool} {t1 t2 t3 : Tok} {Q : Flow → Shared → Prop} (T : Tops mg mb fa e.top) (R : Rm A 1)
    (B : Bd g e I L m [] s.heap) (h1 : m "bare" = some (.str y t1)) (h2 : m "below" = some (.bool b)) (h3 : m "value" = some (.int 0 t2)) (h4 : m "ahead" = some (.str "_" t3))
    (k : ∀ v tk h' J m', Bd g e J L m' [] h' → IsOpt (numTail b y) v → Q (.ret v) { s with heap := h', toks := tk }) :
    wpAny (model prog w) A (exec ((fnBody 12).getD 5 (.Pass default)) (envX (fnName 12) (fnScope 12) L (fa 12) cd [])) (fun f s' => match f with
      | .next => wpAny (model prog w) A (execs ((fnBody 12).drop 6) (envX (fnName 12) (fnScope 12) L (fa 12) cd [])) Q E s'
      | f => Q f s') E s := by
  refine wpAny_For ?_
  repeat (walk_at "mm")
  refine for_str (NumI y b) R.hd B ⟨rfl, h2, _, _, _, _, h3, h4, rfl⟩ ?_ ?_
  · intro i c u g' J m' mu' h tk hc ov B' hJ hP
    refine opq2 fun Qt Et hQ hE => ?_
    obtain ⟨rfl, hb, v, t, a, t', hv, ha, hl⟩ := hP
    have hc' : y.cps.toList[i]? = some c := by simpa using hc
    rw [drop_of hc', numLoop] at hl
    repeat' (walk_at "mm")
    · rename_i q1 q2
      rw [if_pos q1, if_pos q2] at hl
      exact hQ _ _ (k _ _ _ _ _ (Bd.over (by assumption) ov B.tG) (by rw [numTail, ← hl]; rfl))
    · rename_i q1 q2 _ _
      rw [if_pos q1, if_neg (by rw [q2]; exact Bool.false_ne_true)] at hl
      refine hQ _ _ ⟨J, _, _, _, _, rfl, by assumption, ?_⟩
      exact ⟨rfl, hb, _, _, _, _, hv, rfl, hl⟩
    · rename_i q1 q2
      rw [if_neg (by rw [q1]; exact Bool.false_ne_true), if_pos (show notD c = true from q2)] at hl
      exact hQ _ _ (k _ _ _ _ _ (Bd.over (by assumption) ov B.tG) (by rw [numTail, ← hl]; rfl))
    · rename_i q1 q2 _ _ _ _
      rw [if_neg (by rw [q1]; exact Bool.false_ne_true), if_neg (by rw [notD, q2]; exact Bool.false_ne_true)] at hl
      refine hQ _ _ ⟨J, _, _, _, _, rfl, by assumption, ?_⟩
      exact ⟨rfl, hb, _, _, _, _, rfl, rfl, hl⟩
  · rintro J m' mu' h tk B' hJ ⟨rfl, hb, v, t, a, t', hv, ha, hl⟩
    rw [List.drop_eq_nil_of_le (by simp), numLoop] at hl
    show wpAny _ _ (execs ((fnBody 12).drop 6) _) _ _ _
    refine wpAny_execs_cons ?_
    repeat' (walk_at "mm")
    · rename_i q1
      exact k _ _ _ _ _ (by assumption) (by rw [numTail, ← hl]; simp only [q1, if_true]; rfl)
    · rename_i q1 q2
      exact k _ _ _ _ _ (by assumption) (by rw [numTail, ← hl]; simp only [q1, q2, if_true, Bool.false_eq_true, if_false]; exact ⟨_, rfl⟩)
    · rename_i q1 q2
      exact k _ _ _ _ _ (by assumption) (by rw [numTail, ← hl]; simp only [q1, q2, Bool.false_eq_true, if_false]; exact ⟨_, rfl⟩)
set_option maxHeartbeats 4000000 in
theorem number_spec {x : Str} {tx : Tok} {Q : Value → Shared → Prop} (T : Tops mg mb fa G) (hG : G.StaysIn s.heap) (R : Rm A 3) (hI : ∀ a sh, I a = some sh → sh.At s.heap a) (hx : x.length ≤ 100000)
    (k : ∀ v tk h' J, Ret I s.heap h' J → IsOpt (numF x) v → Q v { s with heap := h', toks := tk }) :
    wpAny (model prog w) A (call (.ref (fa 12)) [.str x tx]) Q E s := by
  refine c_in 12 (binds := [("field", .str x tx)]) T hG (by have := R.dp; omega) hI (fun _ _ _ _ => rfl) (fun cd h₀ B => ?_) (hloc := locs rfl)
  have R' := R.deeper (envX (fnName 12) (fnScope 12) s.heap.objs.size (fa 12) cd [])
  show wpAny _ _ (execs (fnBody 12) _) _ _ _
  refine wpAny_execs_cons ?_
  repeat' (walk_at "mm")
  all_goals refine number_tail T (R'.less (n := 1) (k := 1)) (by assumption) rfl rfl rfl rfl fun v tk h' J m' B' hv => k _ _ _ _ B'.ret ?_
  all_goals rw [numF]
  all_goals simp only [*, true_or, or_true, if_true, Bool.false_eq_true, or_false, if_false] at hv ⊢
  all_goals exact hv
end
noncomputable def uPart (draw : Int) (k : Nat) : Part := ⟨Str.ofString "uint1", [(draw + 7 * (k : Int)).fmod 256]⟩
noncomputable def bPart (draw : Int) (k : Nat) : Part := ⟨Str.ofString "bytes1", (draw + (k : Int)).fmod 4 :: (List.range ((draw + (k : Int)).fmod 4).toNat).map fun (j : Nat) => (draw + 7 * (k : Int) + (j : Int)).fmod 256⟩
noncomputable def partsF (number draw : Int) : List Part := if 0 ≤ number then (List.range number.toNat).map (uPart draw) else (List.range (-number).toNat).map (bPart draw)
section
variable {prog : Program} {w : World} {A : Around} {E : Value → Shared → Prop} {s : Shared} {mg mb : Str → Option Value} {fa : Nat → Addr} {G : Heap} {I : Fz}
inductive PartI (draw : Int) (t2 : Tok) (pa n : Addr) (i : Nat) (J : Fz) (m' : Str → Option Value) (mu' : List (Addr × Sh)) : Prop
  | mk (ys : List Value) (kv : Option Value) (h0 : mu' = [(pa, .list ys), (n + 1, .cell (some (.int draw t2))), (n + 2, .cell kv)]) (h1 : m' "parts" = some (.ref pa)) (h2 : DatIs J ys (((List.range i).map (bPart draw)).map Part.dat)) (h3 : ys.length = i)
set_option maxHeartbeats 4000000 in
theorem parts_spec {number draw : Int} {t1 t2 : Tok} {Q : Value → Shared → Prop} (T : Tops mg mb fa G) (hG : G.StaysIn s.heap) (R : Rm A 3) (hI : ∀ a sh, I a = some sh → sh.At s.heap a) (hn : -100 ≤ number ∧ number ≤ 100) (hd : 0 ≤ draw ∧ draw ≤ 100000)
    (k : ∀ v tk h' J, Ret I s.heap h' J → DatI J v (.list ((partsF number draw).map Part.dat)) → Q v { s with heap := h', toks := tk }) :
    wpAny (model prog w) A (call (.ref (fa 13)) [.int number t1, .int draw t2]) Q E s := by
  refine c_inC2 13 (binds := [("number", .int number t1), ("draw", .int draw t2)]) (x1 := "draw") (x2 := "k") (v1 := some (.int draw t2)) (v2 := none) T hG (by have := R.dp; omega) hI (fun _ _ _ _ => rfl) (fun cd h₀ tk B => ?_) (by decide) (fun _ => rfl) (by decide) (fun _ => rfl) (fun _ => rfl) (kindsX rfl) rfl rfl rfl
  have R' := R.deeper (envX (fnName 13) (fnScope 13) s.heap.objs.size (fa 13) cd [("k", s.heap.objs.size + 2), ("draw", s.heap.objs.size + 1)])
  show wpAny _ _ (execs (fnBody 13) _) _ _ _
  refine wpAny_execs_cons ?_
  repeat' (walk_at "mm")
  · refine comp_range (fun i J mu' ys => mu' = [(s.heap.objs.size + 1, .cell (some (.int draw t2))), (s.heap.objs.size + 2, .cell none)] ∧ DatIs J ys (((List.range i).map (uPart draw)).map Part.dat)) R'.hd B ⟨by omega, by omega⟩ ⟨rfl, .nil⟩ (by decide) rfl ?_ ?_
    · intro i u g' J C D m' mu' ys h tk hi ov B' hJ hP hl nL
      refine opq2 fun Qt Et hQ hE => ?_
      obtain ⟨rfl, hys⟩ := hP
      repeat' (walk_at "mm")
      rename_i a1 h1 J1 B1 l1 j1 a2 h2 J2 B2 l2 j2
      refine hQ _ _ ⟨J2, _, _, _, _, rfl, B2, rfl, ?_⟩
      rw [List.range_succ, List.map_append, List.map_append]
      exact (hys.mono (l1.trans l2)).append (.one (.list j2 (.cons (.str _ _) (.cons (.list (l2 _ _ j1) (.cons (.int _ _) .nil)) .nil))))
    · rintro J C D mC mu' ys h tk B' hJ ⟨rfl, hys⟩ hl nC lD hCD oC oD
      refine comp_done B' nC lD hCD oC oD fun h' J' B'' hJ' hD => ?_
      refine k _ _ _ _ B''.ret (.list hD ?_)
      rw [partsF, if_pos (by assumption)]
      exact hys.mono hJ'
  · refine a_listM (by assumption) fun pa h1 B1 => ?_
    repeat (walk_at "mm")
    refine wpAny_For ?_
    repeat (walk_at "mm")
    refine for_range (PartI draw t2 pa s.heap.objs.size) R'.hd (by assumption) ⟨by omega, by omega⟩ (by exact ⟨[], none, rfl, rfl, .nil, rfl⟩) ?_ ?_
    · intro i u g' J m' mu' h tk hi ov B' hJ hP
      refine opq2 fun Qt Et hQ hE => ?_
      obtain ⟨ys, kv, rfl, hm, hys, hyl⟩ := hP
      refine wpAny_assign_Name ?_
      refine s_cell (c := s.heap.objs.size + 2) (pre := [(pa, .list ys), (s.heap.objs.size + 1, .cell (some (.int draw t2)))]) (post := []) (by assumption) rfl rfl fun h2 B2 => ?_
      dsimp only [List.cons_append, List.nil_append] at B2
      repeat' (walk_at "mm")
      repeat (walk_at "mm")
      rename_i hx3 B3 ax4 hx4 J4 B4 l4 j4
      have hfew : 0 ≤ (draw + (i : Int)).fmod 4 ∧ (draw + (i : Int)).fmod 4 < 4 := ⟨Int.fmod_nonneg_of_pos _ (by decide), Int.fmod_lt_of_pos _ (by decide)⟩
      refine comp_range (fun j J5 mu5 zs => mu5 = [(pa, .list ys), (s.heap.objs.size + 1, .cell (some (.int draw t2))), (s.heap.objs.size + 2, .cell (some (.int (i : Int) u)))] ∧ DatIs J5 zs (((List.range j).map fun (j : Nat) => (draw + 7 * (i : Int) + (j : Int)).fmod 256).map .int)) R'.hd B4 ⟨by omega, by omega⟩ ⟨rfl, .nil⟩ (by decide) rfl ?_ ?_
      · intro j u5 g5 J5 C5 D5 m5 mu5 zs h5 tk5 hj ov5 B5 hJ5 hP5 hzl nL
        refine opq2 fun Qt5 Et5 hQ5 hE5 => ?_
        obtain ⟨rfl, hzs⟩ := hP5
        repeat' (walk_at "mm")
        refine hQ5 _ _ ⟨J5, _, _, _, _, rfl, by assumption, rfl, ?_⟩
        rw [List.range_succ, List.map_append, List.map_append]
        exact hzs.append (.one (.int _ _))
      · rintro J5 C5 D5 mC5 mu5 zs h5 tk5 B5 hJ5 ⟨rfl, hzs⟩ hzl nC lD hCD oC oD
        refine comp_done B5 nC lD hCD oC oD fun h6 J6 B6 hJ6 hD => ?_
        have j4' := hJ6 _ _ (hJ5 _ _ j4)
        refine l_add B6 (B6.sub _ _ j4') (B6.sub _ _ hD) (fun c7 h7 J7 B7 l7 j7 => ?_) (by simp only [List.length_cons, List.length_nil, hzl, sizeLine_eq]; omega)
        repeat (walk_at "mm")
        rename_i ax8 hx8 J8 B8 l8 j8
        refine l_append (pre := []) B8 rfl (fun h9 B9 => ?_) (by rw [hyl, sizeLine_eq]; omega)
        repeat (walk_at "mm")
        refine hQ _ _ ⟨J8, _, _, _, _, rfl, B9, _, _, rfl, hm, ?_, by simp [hyl]⟩
        rw [List.range_succ, List.map_append, List.map_append]
        have le : J.le J8 := (((l4.trans hJ5).trans hJ6).trans l7).trans l8
        refine (hys.mono le).append (.one (.list j8 (.cons (.str _ _) (.cons (.list (l8 _ _ j7) ?_) .nil))))
        exact .cons (.int _ _) (hzs.mono ((hJ6.trans l7).trans l8))
    · rintro J m' mu' h tk B' hJ ⟨ys, kv, rfl, hm, hys, hyl⟩
      repeat (walk_at "mm")
      obtain ⟨B2, l2⟩ := B'.seal (pre := []) rfl
      refine k _ _ _ _ B2.ret (.list (Fz.put_self _ _ _) ?_)
      rw [partsF, if_neg (by assumption)]
      exact hys.mono l2
end
section
variable {prog : Program} {w : World} {A : Around} {E : Value → Shared → Prop} {s : Shared} {I : Fz}
theorem i_strs5 {value slice : Expr} {a : Addr} {vs : List Value} {xs : List Str} {k : Int} {u : Tok} {Q : Value → Shared → Prop} (ha : (Sh.list vs).At s.heap a) (hs : DatIs Fz.nil vs (xs.map .str)) (h0 : 0 ≤ k) (hk : k < (xs.length : Int)) (hl : ∀ x ∈ xs, x.length ≤ 20000)
    (h : ∀ t, (xs.getD k.toNat (Str.ofString "")).length ≤ 20000 → Q (.str (xs.getD k.toNat (Str.ofString "")) t) s) (hz : xs.length ≤ 1000)
    (hsub : subscripted slice false (.ref a) (.int k u) = operate [.ref a, .int k u] (getItem (.ref a) (.int k u)) := by with_unfolding_all rfl) :
    wpAny (model prog w) A (subscriptTail value slice (.ref a) (.int k u)) Q E s := by
  have hlt : k.toNat < xs.length := by omega
  have e : xs.getD k.toNat (Str.ofString "") = xs[k.toNat] := by rw [List.getD_eq_getElem?_getD, List.getElem?_eq_getElem hlt]; rfl
  obtain ⟨v, hv, hD⟩ := hs.get' (k := k.toNat) (d := .str xs[k.toNat]) (by rw [List.getElem?_map, List.getElem?_eq_getElem hlt]; rfl)
  cases hD
  rw [e] at h
  exact i_list ha h0 hv (h _ (hl _ (List.getElem_mem hlt))) (by omega) hsub
theorem i_sign {value slice : Expr} {x : Str} {t u : Tok} {i : Int} {n : Nat} {Q : Value → Shared → Prop} (hn : x.length = n) (h0 : 0 ≤ i) (h1 : i < (n : Int)) (hz : n ≤ 1000) (h : ∀ t' k, (Txt.item x i).length ≤ 1 → Q (.str (Txt.item x i) t') { s with toks := k })
    (hs : subscripted slice false (.str x t) (.int i u) = operate [.str x t, .int i u] (getItem (.str x t) (.int i u)) := by with_unfolding_all rfl)
    (ht : ∀ r, letTemporaryGo value (.str x t) r = pure () := by intro _; with_unfolding_all rfl) :
    wpAny (model prog w) A (subscriptTail value slice (.str x t) (.int i u)) Q E s :=
  item_str (by simp [fitsSsize]; omega) (by omega) (by omega) (fun q => h _ _ q.2) hs ht
end
noncomputable def fieldF (d : Int) : Str := (["", "-", "-0", " -"] : List Str).getD (d.fmod 4).toNat (Str.ofString "") ++ Txt.item (Str.ofString "00_ -+ 1") ((d.fdiv 4).fmod 8) ++ Txt.item (Str.ofString "0123456 ") ((d.fdiv 32).fmod 8)
noncomputable def markF (kd : Int) : Str := Txt.item (Str.ofString "|!x|!||!") kd
noncomputable def endF (d : Int) : Str := ([")", ") (|||7|)", "))"] : List Str).getD (d.fdiv 256).toNat (Str.ofString "")
noncomputable def headF (kd d : Int) : Str := Str.ofString "229 p" ++ ⟨#[(255 - d.fmod 128).toNat]⟩ ++ Str.ofString "rt) (" ++ markF kd ++ markF kd ++ (["", "2"] : List Str).getD ((d.fdiv 3).fmod 2).toNat (Str.ofString "") ++ markF kd ++ fieldF d ++ markF kd
/-- the replies, as the record lays them down -/
noncomputable def replyOf (kd d : Int) (hd fl mk en : Str) : Str :=
  if kd = 5 then Str.ofString "228" ++ Txt.slice hd (some 3) none ++ en
  else if kd > 5 then ([hd ++ Str.ofString ".", hd ++ mk ++ en, hd ++ Str.ofString "?" ++ en, Txt.slice hd none (some (-(fl.length : Int) - 1)) ++ en, Str.ofString "229 2" ++ fl ++ Str.ofString "2)"] : List Str).getD (d.fmod 5).toNat (Str.ofString "")
  else hd ++ en
noncomputable def rowOf (kd : Int) (rp : Str) (n : Option Int) : Row :=
  if kd = 5 then .three rp (Str.ofString "another code") rp else if kd > 5 then .three rp (Str.ofString "no port") rp else match n with
  | none => .two rp (Str.ofString "no number")
  | some n => .num rp n
noncomputable def strPart (rp : Str) : Part := ⟨Str.ofString "string1", (rp.length : Int) :: rp.cps.toList.map fun (c : Nat) => (c : Int)⟩
noncomputable def recOf (kd d : Int) (rp : Str) (n : Option Int) : Rec := ⟨rowOf kd rp n, strPart rp :: (if kd < 5 then match n with | none => [] | some n => partsF n d else [])⟩
noncomputable def recF (z : Int) : Rec := recOf (z.fmod 8) (z.fdiv 8) (replyOf (z.fmod 8) (z.fdiv 8) (headF (z.fmod 8) (z.fdiv 8)) (fieldF (z.fdiv 8)) (markF (z.fmod 8)) (endF (z.fdiv 8))) (numF (fieldF (z.fdiv 8)))
section
variable {prog : Program} {w : World} {A : Around} {E : Value → Shared → Prop} {s : Shared} {mg mb : Str → Option Value} {fa : Nat → Addr} {G : Heap} {I : Fz} {g : Gd} {e : Ent} {m : Str → Option Value}
/-- the row before the number is asked -/
noncomputable def row0 (kd : Int) (rp : Str) : Row := if kd = 5 then .three rp (Str.ofString "another code") rp else if kd > 5 then .three rp (Str.ofString "no port") rp else .two rp (Str.ofString "no number")
set_option maxHeartbeats 8000000 in
theorem record_if {cd : Value} {L : Addr} {kd d : Int} {hd fl mk en : Str} {t1 t2 t3 t4 t5 t6 : Tok} {Q : Flow → Shared → Prop} (T : Tops mg mb fa e.top) (R : Rm A 3)
    (B : Bd g e I L m [] s.heap) (h1 : m "kind" = some (.int kd t1)) (h2 : m "draw" = some (.int d t2)) (h3 : m "field" = some (.str fl t3)) (h4 : m "mark" = some (.str mk t4)) (h5 : m "end" = some (.str en t5)) (h6 : m "reply" = some (.str hd t6))
    (hkd : 0 ≤ kd ∧ kd < 8) (hdr : 0 ≤ d ∧ d ≤ 100000) (l1 : fl.length ≤ 1000) (l2 : mk.length ≤ 1000) (l3 : en.length ≤ 1000) (l4 : hd.length ≤ 10000)
    (k : ∀ tk h' J m' rv t, Bd g e J L m' [] h' → (replyOf kd d hd fl mk en).length ≤ 20000 → m' "reply" = some (.str (replyOf kd d hd fl mk en) t) → m' "row" = some rv → DatI J rv (row0 kd (replyOf kd d hd fl mk en)).dat → (∀ y : Str, y ≠ Str.ofString "reply" → y ≠ Str.ofString "row" → m' y = m y) → Q .next { s with heap := h', toks := tk }) :
    wpAny (model prog w) A (exec ((fnBody 14).getD 7 (.Pass default)) (envX (fnName 14) (fnScope 14) L (fa 14) cd [])) Q E s := by
  refine wpAny_If ?_
  have z1 : (Str.ofString "228").length = 3 := by decide
  have z2 : (Str.ofString ".").length = 1 := by decide
  have z3 : (Str.ofString "?").length = 1 := by decide
  have z4 : (Str.ofString "229 2").length = 5 := by decide
  have z5 : (Str.ofString "2)").length = 2 := by decide
  repeat' (walk_at "mm")
  · have q5 : kd = 5 := by omega
    have e : replyOf kd d hd fl mk en = Str.ofString "228" ++ Txt.slice hd (some 3) none ++ en := by rw [replyOf, if_pos q5]
    refine k _ _ _ _ (.ref _) _ (by assumption) ?_ (by rw [e]; rfl) rfl (by rw [row0, if_pos q5, e]; exact .list (by assumption) (.cons (.str _ _) (.cons (.str _ _) (.cons (.str _ _) .nil)))) ?_
    · rw [e]; simp only [Str.length_append]; omega
    · intro y hy1 hy2; exact (if_neg hy2).trans (if_neg hy1)
  · have q5 : ¬ kd = 5 := by omega
    have q6 : kd > 5 := by omega
    have f5 : 0 ≤ d.fmod 5 ∧ d.fmod 5 < 5 := ⟨Int.fmod_nonneg_of_pos _ (by decide), Int.fmod_lt_of_pos _ (by decide)⟩
    refine i_strs5 (xs := [hd ++ Str.ofString ".", hd ++ mk ++ en, hd ++ Str.ofString "?" ++ en, Txt.slice hd none (some (-(fl.length : Int) - 1)) ++ en, Str.ofString "229 2" ++ fl ++ Str.ofString "2)"]) (Bd.sub (by assumption) _ _ (by assumption)) (.cons (.str _ _) (.cons (.str _ _) (.cons (.str _ _) (.cons (.str _ _) (.cons (.str _ _) .nil))))) f5.1 f5.2 ?_ (fun t5 hl5 => ?_) (by simp)
    · intro x hx
      rcases List.mem_cons.mp hx with rfl | hx
      · simp only [Str.length_append]; omega
      rcases List.mem_cons.mp hx with rfl | hx
      · simp only [Str.length_append]; omega
      rcases List.mem_cons.mp hx with rfl | hx
      · simp only [Str.length_append]; omega
      rcases List.mem_cons.mp hx with rfl | hx
      · simp only [Str.length_append]; omega
      rcases List.mem_cons.mp hx with rfl | hx
      · simp only [Str.length_append]; omega
      cases hx
    repeat' (walk_at "mm")
    have e : replyOf kd d hd fl mk en = ([hd ++ Str.ofString ".", hd ++ mk ++ en, hd ++ Str.ofString "?" ++ en, Txt.slice hd none (some (-(fl.length : Int) - 1)) ++ en, Str.ofString "229 2" ++ fl ++ Str.ofString "2)"] : List Str).getD (d.fmod 5).toNat (Str.ofString "") := by rw [replyOf, if_neg q5, if_pos q6]
    refine k _ _ _ _ (.ref _) _ (by assumption) ?_ (by rw [e]; rfl) rfl (by rw [row0, if_neg q5, if_pos q6, e]; exact .list (by assumption) (.cons (.str _ _) (.cons (.str _ _) (.cons (.str _ _) .nil)))) ?_
    · rw [e]; exact hl5
    · intro y hy1 hy2; exact (if_neg hy2).trans (if_neg hy1)
  · have q5 : ¬ kd = 5 := by omega
    have q6 : ¬ kd > 5 := by omega
    have e : replyOf kd d hd fl mk en = hd ++ en := by rw [replyOf, if_neg q5, if_neg q6]
    refine k _ _ _ _ (.ref _) _ (by assumption) ?_ (by rw [e]; rfl) rfl (by rw [row0, if_neg q5, if_neg q6, e]; exact .list (by assumption) (.cons (.str _ _) (.cons (.str _ _) .nil))) ?_
    · rw [e]; simp only [Str.length_append]; omega
    · intro y hy1 hy2; exact (if_neg hy2).trans (if_neg hy1)
end
section
variable {prog : Program} {w : World} {A : Around} {E : Value → Shared → Prop} {s : Shared} {mg mb : Str → Option Value} {fa : Nat → Addr} {G : Heap} {I : Fz} {g : Gd} {e : Ent} {m : Str → Option Value}
set_option maxHeartbeats 8000000 in
theorem record_rest {cd : Value} {L : Addr} {kd d : Int} {rp : Str} {nv rv : Value} {nn : Option Int} {t1 t2 t6 : Tok} {Q : Flow → Shared → Prop} (T : Tops mg mb fa e.top) (R : Rm A 4)
    (B : Bd g e I L m [] s.heap) (h1 : m "kind" = some (.int kd t1)) (h2 : m "draw" = some (.int d t2)) (h6 : m "reply" = some (.str rp t6)) (h7 : m "number" = some nv) (h8 : m "row" = some rv) (hrv : DatI I rv (row0 kd rp).dat)
    (hdr : 0 ≤ d ∧ d ≤ 100000) (lr : rp.length ≤ 20000) (hnv : IsOpt nn nv) (hnb : ∀ n, nn = some n → -100 ≤ n ∧ n ≤ 100)
    (k : ∀ v tk h' J m', Bd g e J L m' [] h' → DatI J v (recOf kd d rp nn).dat → Q (.ret v) { s with heap := h', toks := tk }) :
    wpAny (model prog w) A (execs ((fnBody 14).drop 8) (envX (fnName 14) (fnScope 14) L (fa 14) cd [])) Q E s := by
  refine wpAny_execs_cons ?_
  repeat' (walk_at "mm")
  rename_i B3 l3 j3
  refine comp_str (fun i J mu' ys => mu' = [] ∧ DatIs J ys (((rp.cps.toList.take i).map fun (c : Nat) => (c : Int)).map .int)) R.hd (by assumption) ⟨rfl, .nil⟩ (by have : rp.cps.size = rp.length := rfl; rw [sizeLine_eq]; omega) (by decide) rfl ?_ ?_
  · intro i c u g' J C D m' mu' ys h tk hc ov B' hJ hP hl nL
    refine opq2 fun Qt Et hQ hE => ?_
    obtain ⟨rfl, hys⟩ := hP
    repeat' (walk_at "mm")
    refine hQ _ _ ⟨J, _, _, _, _, rfl, by assumption, rfl, ?_⟩
    have hc' : rp.cps.toList[i]? = some c := by simpa using hc
    rw [take_of hc', List.map_append, List.map_append]
    exact hys.append (.one (.int _ _))
  · rintro J C D mC mu' ys h tk B' hJ ⟨rfl, hys⟩ hl nC lD hCD oC oD
    refine comp_done B' nC lD hCD oC oD fun h' J' B'' hJ' hD => ?_
    rw [show rp.cps.size = rp.cps.toList.length by simp, List.take_length] at hys
    refine l_add B'' (B''.sub _ _ (hJ' _ _ (hJ _ _ j3))) (B''.sub _ _ hD) (fun c7 h7' J7 B7 l7 j7 => ?_) (by have : rp.cps.size = rp.length := rfl; simp only [List.length_cons, List.length_nil, hl, sizeLine_eq]; omega)
    repeat' (walk_at "mm")
    · rename_i a1 x1 J1 B1 l1 j1 a2 x2 J2 B2 l2 j2 x3 B4 q
      have hle : I.le J2 := (((l3.trans hJ).trans hJ').trans l7).trans (l1.trans l2)
      have hsp : DatIs J2 [.ref a1] [(strPart rp).dat] := .one (.list (l2 _ _ j1) (.cons (.str _ _) (.cons (.list ((l1.trans l2) _ _ j7) (.cons (.int _ _) (hys.mono ((hJ'.trans l7).trans (l1.trans l2))))) .nil)))
      cases nn with
      | none =>
        obtain rfl : nv = .none := hnv
        repeat' (walk_at "mm")
        rename_i a5 x5 J5 B5 l5 j5
        refine k _ _ _ _ _ B5 (.list j5 (.cons ?_ (.cons (.list (l5 _ _ j2) ?_) .nil)))
        · have := hrv.mono (hle.trans l5)
          rw [row0, if_neg (by omega), if_neg (by omega)] at this
          rw [recOf, rowOf, if_neg (by omega), if_neg (by omega)]
          exact this
        · rw [recOf]
          simp only [if_pos q, List.map_cons, List.map_nil]
          exact hsp.mono l5
      | some n =>
        obtain ⟨tn, rfl⟩ := hnv
        have hn := hnb n rfl
        repeat' (walk_at "mm")
        rename_i a5 x5 J5 B5 l5 j5 x6 B6
        refine n_fn 13 (by assumption) T ?_
        refine c_fn T (Bd.tops (by assumption)) ?_
        repeat (walk_at "mm")
        · exact B6.tops
        · refine parts_spec T B6.tops (R.less (n := 3) (k := 1)) (fun a sh q => B6.sub a sh q) hn hdr fun pv tk6 h6' J6 ret6 hpv => ?_
          have B7' := B6.after ret6
          cases hpv with
          | list hpa hps =>
          have hpl := hps.length
          rw [List.length_map] at hpl
          have hpb : (partsF n d).length ≤ 100 := by unfold partsF; split <;> simp <;> omega
          refine l_add B7' (B7'.sub _ _ ((ret6.le) _ _ (l5 _ _ j2))) (B7'.sub _ _ hpa) (fun c8 h8 J8 B8 l8 j8 => ?_) (by simp only [List.length_cons, List.length_nil, sizeLine_eq]; omega)
          repeat (walk_at "mm")
          rename_i x9 B9 a10 x10 J10 B10 l10 j10
          refine k _ _ _ _ _ B10 (.list j10 (.cons ?_ (.cons (.list (l10 _ _ j8) ?_) .nil)))
          · rw [recOf, rowOf, if_neg (by omega), if_neg (by omega)]
            exact .list ((l8.trans l10) _ _ (ret6.le _ _ j5)) (.cons (.str _ _) (.cons (.int _ _) .nil))
          · rw [recOf]
            simp only [if_pos q, List.map_cons]
            exact (hsp.mono ((l5.trans ret6.le).trans (l8.trans l10))).append (hps.mono (l8.trans l10))
    · rename_i a1 x1 J1 B1 l1 j1 a2 x2 J2 B2 l2 j2 x3 B4 q a5 x5 J5 B5 l5 j5
      have hle : I.le J2 := (((l3.trans hJ).trans hJ').trans l7).trans (l1.trans l2)
      have hsp : DatIs J2 [.ref a1] [(strPart rp).dat] := .one (.list (l2 _ _ j1) (.cons (.str _ _) (.cons (.list ((l1.trans l2) _ _ j7) (.cons (.int _ _) (hys.mono ((hJ'.trans l7).trans (l1.trans l2))))) .nil)))
      refine k _ _ _ _ _ B5 (.list j5 (.cons ?_ (.cons (.list (l5 _ _ j2) ?_) .nil)))
      · have := hrv.mono (hle.trans l5)
        unfold recOf rowOf
        dsimp only
        rw [row0] at this
        split at this
        · rw [if_pos (by assumption)]; exact this
        · rw [if_neg (by assumption)]
          rw [if_pos (by omega)] at this ⊢
          exact this
      · unfold recOf
        simp only [if_neg (show ¬ kd < 5 by omega), List.map_cons, List.map_nil]
        exact hsp.mono l5
end
section
variable {prog : Program} {w : World} {A : Around} {E : Value → Shared → Prop} {s : Shared} {mg mb : Str → Option Value} {fa : Nat → Addr} {G : Heap} {I : Fz}
theorem getD_len {xs : List Str} {n k : Nat} (h : ∀ x ∈ xs, x.length ≤ n) : (xs.getD k (Str.ofString "")).length ≤ n := by
  rw [List.getD_eq_getElem?_getD]
  cases q : xs[k]? with
  | none => exact Nat.zero_le _
  | some x => exact h x (List.mem_of_getElem? q)
theorem field_len (d : Int) : (fieldF d).length ≤ 4 := by
  have h1 : ((["", "-", "-0", " -"] : List Str).getD (d.fmod 4).toNat (Str.ofString "")).length ≤ 2 := getD_len (by decide)
  have h2 := len_item (Str.ofString "00_ -+ 1") ((d.fdiv 4).fmod 8)
  have h3 := len_item (Str.ofString "0123456 ") ((d.fdiv 32).fmod 8)
  unfold fieldF
  simp only [Str.length_append]
  omega
theorem mark_len (k : Int) : (markF k).length = 1 := len_item _ _
theorem end_len (d : Int) : (endF d).length ≤ 9 := getD_len (by decide)
theorem head_len (k d : Int) : (headF k d).length ≤ 20 := by
  have h1 : ((["", "2"] : List Str).getD ((d.fdiv 3).fmod 2).toNat (Str.ofString "")).length ≤ 1 := getD_len (by decide)
  have h2 := mark_len k
  have h3 := field_len d
  have z1 : (Str.ofString "229 p").length = 5 := by decide
  have z2 : (Str.ofString "rt) (").length = 5 := by decide
  have z3 : Str.length ⟨#[(255 - d.fmod 128).toNat]⟩ = 1 := rfl
  unfold headF
  simp only [Str.length_append]
  omega
noncomputable def fieldOf (a b c : Nat) : Str := (["", "-", "-0", " -"] : List Str).getD a (Str.ofString "") ++ Txt.item (Str.ofString "00_ -+ 1") (b : Int) ++ Txt.item (Str.ofString "0123456 ") (c : Int)
theorem field_small : ∀ a < 4, ∀ b < 8, ∀ c < 8, (match numF (fieldOf a b c) with | none => true | some n => decide (-100 ≤ n ∧ n ≤ 100)) = true := by decide +kernel
theorem field_of (d : Int) : ∃ a b c, a < 4 ∧ b < 8 ∧ c < 8 ∧ fieldF d = fieldOf a b c := by
  have f4 : 0 ≤ d.fmod 4 ∧ d.fmod 4 < 4 := ⟨Int.fmod_nonneg_of_pos _ (by decide), Int.fmod_lt_of_pos _ (by decide)⟩
  have f8 : 0 ≤ (d.fdiv 4).fmod 8 ∧ (d.fdiv 4).fmod 8 < 8 := ⟨Int.fmod_nonneg_of_pos _ (by decide), Int.fmod_lt_of_pos _ (by decide)⟩
  have f8' : 0 ≤ (d.fdiv 32).fmod 8 ∧ (d.fdiv 32).fmod 8 < 8 := ⟨Int.fmod_nonneg_of_pos _ (by decide), Int.fmod_lt_of_pos _ (by decide)⟩
  refine ⟨(d.fmod 4).toNat, ((d.fdiv 4).fmod 8).toNat, ((d.fdiv 32).fmod 8).toNat, by omega, by omega, by omega, ?_⟩
  unfold fieldF fieldOf
  rw [Int.toNat_of_nonneg f8.1, Int.toNat_of_nonneg f8'.1]
theorem number_small (d n : Int) (h : numF (fieldF d) = some n) : -100 ≤ n ∧ n ≤ 100 := by
  obtain ⟨a, b, c, ha, hb, hc, e⟩ := field_of d
  have := field_small a ha b hb c hc
  rw [← e, h] at this
  exact of_decide_eq_true this
set_option maxHeartbeats 8000000 in
theorem record_spec {z : Int} {t1 : Tok} {Q : Value → Shared → Prop} (T : Tops mg mb fa G) (hG : G.StaysIn s.heap) (R : Rm A 5) (hI : ∀ a sh, I a = some sh → sh.At s.heap a) (hz : 0 ≤ z ∧ z < 6144)
    (k : ∀ v tk h' J, Ret I s.heap h' J → DatI J v (recF z).dat → Q v { s with heap := h', toks := tk }) :
    wpAny (model prog w) A (call (.ref (fa 14)) [.int z t1]) Q E s := by
  refine c_in 14 (binds := [("z", .int z t1)]) T hG (by have := R.dp; omega) hI (fun _ _ _ _ => rfl) (fun cd h₀ B => ?_) (hloc := locs rfl)
  have R' := R.deeper (envX (fnName 14) (fnScope 14) s.heap.objs.size (fa 14) cd [])
  show wpAny _ _ (execs (fnBody 14) _) _ _ _
  refine wpAny_execs_cons ?_
  repeat' (walk_at "mm")
  have hd8 : 0 ≤ z.fdiv 8 ∧ z.fdiv 8 < 768 := by rw [Int.fdiv_eq_ediv_of_nonneg _ (by decide)]; omega
  have hk8 : 0 ≤ z.fmod 8 ∧ z.fmod 8 < 8 := ⟨Int.fmod_nonneg_of_pos _ (by decide), Int.fmod_lt_of_pos _ (by decide)⟩
  generalize hd : z.fdiv 8 = d at *
  generalize hkd : z.fmod 8 = kd at *
  have f4 : 0 ≤ d.fmod 4 ∧ d.fmod 4 < 4 := ⟨Int.fmod_nonneg_of_pos _ (by decide), Int.fmod_lt_of_pos _ (by decide)⟩
  refine i_strs5 (xs := ["", "-", "-0", " -"]) (Bd.sub (by assumption) _ _ (by assumption)) (.cons (.str _ _) (.cons (.str _ _) (.cons (.str _ _) (.cons (.str _ _) .nil)))) f4.1 f4.2 (by decide) (fun t5 hl5 => ?_) (by decide)
  have f8 : 0 ≤ (d.fdiv 4).fmod 8 ∧ (d.fdiv 4).fmod 8 < 8 := ⟨Int.fmod_nonneg_of_pos _ (by decide), Int.fmod_lt_of_pos _ (by decide)⟩
  have f8' : 0 ≤ (d.fdiv 32).fmod 8 ∧ (d.fdiv 32).fmod 8 < 8 := ⟨Int.fmod_nonneg_of_pos _ (by decide), Int.fmod_lt_of_pos _ (by decide)⟩
  repeat' (walk_at "mm")
  refine i_sign (n := 8) (by decide) f8.1 f8.2 (by decide) fun t6 k6 hl6 => ?_
  repeat' (walk_at "mm")
  refine i_sign (n := 8) (by decide) f8'.1 f8'.2 (by decide) fun t7 k7 hl7 => ?_
  repeat' (walk_at "mm")
  refine i_sign (n := 8) (by decide) hk8.1 hk8.2 (by decide) fun t8 k8 hl8 => ?_
  repeat' (walk_at "mm")
  have f256 : 0 ≤ d.fdiv 256 ∧ d.fdiv 256 < 3 := by rw [Int.fdiv_eq_ediv_of_nonneg _ (by decide)]; omega
  refine i_strs5 (xs := [")", ") (|||7|)", "))"]) (Bd.sub (by assumption) _ _ (by assumption)) (.cons (.str _ _) (.cons (.str _ _) (.cons (.str _ _) .nil))) f256.1 f256.2 (by decide) (fun t9 hl9 => ?_) (by decide)
  repeat' (walk_at "mm")
  have f128 : 0 ≤ d.fmod 128 ∧ d.fmod 128 < 128 := ⟨Int.fmod_nonneg_of_pos _ (by decide), Int.fmod_lt_of_pos _ (by decide)⟩
  have f2 : 0 ≤ (d.fdiv 3).fmod 2 ∧ (d.fdiv 3).fmod 2 < 2 := ⟨Int.fmod_nonneg_of_pos _ (by decide), Int.fmod_lt_of_pos _ (by decide)⟩
  refine chr_of_range (by omega) (by omega) ?_
  repeat' (walk_at "mm")
  refine i_strs5 (xs := ["", "2"]) (Bd.sub (by assumption) _ _ (by assumption)) (.cons (.str _ _) (.cons (.str _ _) .nil)) f2.1 f2.2 (by decide) (fun t10 hl10 => ?_) (by decide)
  repeat' (walk_at "mm")
  refine n_fn 12 (by assumption) T ?_
  refine c_fn T (Bd.tops (by assumption)) ?_
  repeat (walk_at "mm")
  · exact Bd.tops (by assumption)
  · rename_i hx12 B12
    refine number_spec T B12.tops (R'.less (n := 3) (k := 1)) (fun a sh q => B12.sub a sh q) (by omega) fun nv tk h' J ret hnv => ?_
    have B13 := B12.after ret
    walk_at "mm"
    rename_i hx14 B14
    refine wpAny_execs_cons ?_
    refine record_if (kd := kd) (d := d) (hd := headF kd d) (fl := fieldF d) (mk := markF kd) (en := endF d) T (R'.less (n := 3) (k := 1)) B14 rfl rfl rfl rfl rfl rfl hk8 (by omega) (Nat.le_trans (field_len d) (by decide)) (by rw [mark_len]; decide) (Nat.le_trans (end_len d) (by decide)) (Nat.le_trans (head_len kd d) (by decide)) ?_
    intro tk15 h15 J15 m15 rv t15 B15 hl15 hr15 hw15 hd15 same
    refine record_rest (kd := kd) (d := d) T R' B15 ((same _ (by decide) (by decide)).trans rfl) ((same _ (by decide) (by decide)).trans rfl) hr15 ((same _ (by decide) (by decide)).trans rfl) hw15 hd15 (by omega) hl15 hnv (fun n hn => number_small d n hn) ?_
    intro v16 tk16 h16 J16 m16 B16 hv16
    exact k _ _ _ _ B16.ret (by rw [recF, hd, hkd]; exact hv16)
end
theorem intsAre_append {us vs : List Value} {ns ms : List Int} (h : IntsAre us ns) (k : IntsAre vs ms) : IntsAre (us ++ vs) (ns ++ ms) := by
  induction h with
  | nil => exact k
  | cons _ _ _ ih => exact .cons _ _ ih
section
variable {prog : Program} {w : World} {A : Around} {E : Value → Shared → Prop} {s : Shared} {mg mb : Str → Option Value} {fa : Nat → Addr} {G : Heap} {I : Fz}
inductive WritI (rs : List Rec) (oa : Addr) (i : Nat) (J : Fz) (m' : Str → Option Value) (mu' : List (Addr × Sh)) : Prop
  | mk (ys : List Value) (h0 : mu' = [(oa, .list ys)]) (h1 : m' "octets" = some (.ref oa)) (h2 : IntsAre ys ((rs.take i).flatMap Rec.ints)) (h3 : ys.length ≤ i * 5120)
inductive WritJ (rs : List Rec) (r : Rec) (oa : Addr) (i j : Nat) (J : Fz) (m' : Str → Option Value) (mu' : List (Addr × Sh)) : Prop
  | mk (zs : List Value) (h0 : mu' = [(oa, .list zs)]) (h1 : m' "octets" = some (.ref oa)) (h2 : IntsAre zs ((rs.take i).flatMap Rec.ints ++ (r.parts.take j).flatMap (·.xs))) (h3 : zs.length ≤ i * 5120 + j * 256)
set_option maxHeartbeats 4000000 in
theorem written_spec {rs : List Rec} {pv : Value} {Q : Value → Shared → Prop} (T : Tops mg mb fa G) (hG : G.StaysIn s.heap) (R : Rm A 3) (hI : ∀ a sh, I a = some sh → sh.At s.heap a)
    (hp : DatI I pv (.list (rs.map Rec.dat))) (hn : rs.length ≤ 20) (hok : ∀ r ∈ rs, r.ok)
    (k : ∀ t tk h' J, Ret I s.heap h' J → Q (.bytes (byteArr (rs.flatMap Rec.ints)) t) { s with heap := h', toks := tk }) :
    wpAny (model prog w) A (call (.ref (fa 15)) [pv]) Q E s := by
  refine c_in 15 (binds := [("records", pv)]) T hG (by have := R.dp; omega) hI (fun _ _ _ _ => rfl) (fun cd h₀ B => ?_) (hloc := locs rfl)
  have R' := R.deeper (envX (fnName 15) (fnScope 15) s.heap.objs.size (fa 15) cd [])
  cases hp with
  | list ha hs =>
  rename_i a vs
  show wpAny _ _ (execs (fnBody 15) _) _ _ _
  refine wpAny_execs_cons ?_
  repeat (walk_at "mm")
  refine a_listM (by assumption) fun oa h1 B1 => ?_
  repeat (walk_at "mm")
  refine wpAny_For ?_
  repeat (walk_at "mm")
  refine for_list (WritI rs oa) R'.hd (by assumption) ha (by exact ⟨[], rfl, rfl, .nil, Nat.zero_le _⟩) (let_tup ?_) ?_ ?_
  · intro v hv
    obtain ⟨i, hi⟩ := List.getElem?_of_mem hv
    obtain ⟨r, a', _, _, _, _, rfl, _⟩ := rec_at hs hi
    exact ⟨_, rfl⟩
  · intro i v g' J m' mu' h tk hv ov B' hJ hP
    refine opq2 fun Qt Et hQ hE => ?_
    obtain ⟨ys, rfl, hm, hi, hl⟩ := hP
    obtain ⟨r, a', rv, b, us, hr, rfl, hb, hrow, hb2, hps, hul⟩ := rec_at (DatIs.mono hJ hs) hv
    have hrok := hok r (List.mem_of_getElem? hr)
    have hilt := (List.getElem?_eq_some_iff.mp hr).1
    refine u_list R'.hd B' (B'.sub _ _ hb) fun h2 B2 => ?_
    repeat (walk_at "mm")
    refine wpAny_For ?_
    repeat (walk_at "mm")
    refine for_list (WritJ rs r oa i) R'.hd (by assumption) hb2 (by exact ⟨ys, rfl, hm, by simpa using hi, by omega⟩) (let_tup ?_) ?_ ?_
    · intro v hv
      obtain ⟨i, hi⟩ := List.getElem?_of_mem hv
      obtain ⟨p, a', _, _, _, _, rfl, _⟩ := part_at hps hi
      exact ⟨_, rfl⟩
    · intro j v g2 J2 m2 mu2 h3 tk3 hv2 ov2 B3 hJ2 hP2
      refine opq2 fun Qt2 Et2 hQ2 hE2 => ?_
      obtain ⟨zs, rfl, hm2, hz, hzl⟩ := hP2
      obtain ⟨p, a2, b2, tk2, ws, hp2, rfl, hc, hc2, hws, hwl⟩ := part_at (DatIs.mono hJ2 hps) hv2
      have hpok := hrok.2 p (List.mem_of_getElem? hp2)
      have hjlt := (List.getElem?_eq_some_iff.mp hp2).1
      have hpl := hrok.1
      have hwl' := hpok.1
      refine u_list R'.hd B3 (B3.sub _ _ hc) fun h4 B4 => ?_
      repeat (walk_at "mm")
      refine gm_extend (Bd.mus (by assumption) (oa, .list zs) (List.Mem.head _)).1 ?_
      repeat (walk_at "mm")
      refine l_extend (pre := []) (post := []) (by assumption) rfl (Bd.sub (by assumption) _ _ hc2) (fun h5 B5 => ?_) (by rw [sizeLine_eq]; omega)
      repeat (walk_at "mm")
      refine hQ2 _ _ ⟨J2, _, _, _, _, rfl, B5, _, rfl, hm2, ?_, ?_⟩
      · rw [take_of hp2, List.flatMap_append, ← List.append_assoc]
        simpa using intsAre_append hz hws.ints
      · rw [List.length_append]; omega
    · rintro J2 m2 mu2 h3 tk3 B3 hJ2 ⟨zs, rfl, hm2, hz, hzl⟩
      repeat (walk_at "mm")
      have := hrok.1
      refine hQ _ _ ⟨J2, _, _, _, _, rfl, B3, zs, rfl, hm2, ?_, by omega⟩
      rw [hul, List.take_length] at hz
      rw [take_of hr, List.flatMap_append]
      simpa [Rec.ints] using hz
  · rintro J m' mu' h tk B' hJ ⟨ys, rfl, hm, hi, hl⟩
    have hvl := hs.length
    rw [List.length_map] at hvl
    rw [hvl, List.take_length] at hi
    repeat (walk_at "mm")
    refine l_bytes R'.hd (by assumption) (Bd.mus (by assumption) (oa, .list ys) (List.Mem.head _)).1 hi ?_ (fun t k' h' B'' => ?_) (by rw [sizeLine_eq]; omega)
    · intro n hn
      obtain ⟨r, hr, hn⟩ := List.mem_flatMap.mp hn
      obtain ⟨p, hp, hn⟩ := List.mem_flatMap.mp hn
      exact ((hok r hr).2 p hp).2.2 n hn
    · exact k _ _ _ _ B''.ret
end
section
variable {prog : Program} {w : World} {A : Around} {E : Value → Shared → Prop} {s : Shared} {mg mb : Str → Option Value} {fa : Nat → Addr} {G : Heap} {I : Fz}
inductive WordI (ps : List Part) (th : Int) (i : Nat) (J : Fz) (m' : Str → Option Value) (mu' : List (Addr × Sh)) : Prop
  | mk (h0 : mu' = []) (t' : Int) (tk' : Tok) (h1 : m' "there" = some (.int t' tk')) (h2 : wordsF (ps.drop i) t' = wordsF ps th)
set_option maxHeartbeats 4000000 in
theorem words_spec {ps : List Part} {th : Int} {t : Tok} {pv : Value} {Q : Value → Shared → Prop} (T : Tops mg mb fa G) (hG : G.StaysIn s.heap) (R : Rm A 3) (hI : ∀ a sh, I a = some sh → sh.At s.heap a)
    (hp : DatI I pv (.list (ps.map Part.dat))) (hok : ∀ p ∈ ps, p.ok)
    (k : ∀ r tk h' J, Ret I s.heap h' J → Q (.str (wordsF ps th) r) { s with heap := h', toks := tk }) :
    wpAny (model prog w) A (call (.ref (fa 16)) [pv, .int th t]) Q E s := by
  refine c_in 16 (binds := [("parts", pv), ("there", .int th t)]) T hG (by have := R.dp; omega) hI (fun _ _ _ _ => rfl) (fun cd h₀ B => ?_) (hloc := locs rfl)
  have R' := R.deeper (envX (fnName 16) (fnScope 16) s.heap.objs.size (fa 16) cd [])
  have T' := T
  show wpAny _ _ (execs (fnBody 16) _) _ _ _
  refine wpAny_execs_cons ?_
  refine wpAny_For ?_
  refine n_loc B rfl ?_
  cases hp with
  | list ha hs =>
  rename_i a vs
  refine for_list (WordI ps th) R'.hd B ha ⟨rfl, th, t, rfl, rfl⟩ (let_tup ?_) ?_ ?_
  · intro v hv
    obtain ⟨i, hi⟩ := List.getElem?_of_mem hv
    obtain ⟨d, hd, hD⟩ := hs.get hi
    rw [List.getElem?_map] at hd
    cases hpi : ps[i]? with
    | none => rw [hpi] at hd; cases hd
    | some p =>
    rw [hpi] at hd
    cases hd
    cases hD with
    | list _ _ => exact ⟨_, rfl⟩
  · intro i v g' J m' mu' h tk hv ov B' hJ hP
    refine opq2 fun Qt Et hQ hE => ?_
    obtain ⟨rfl, t', tk', hm, hw⟩ := hP
    obtain ⟨d, hd, hD⟩ := hs.get hv
    rw [List.getElem?_map] at hd
    cases hpi : ps[i]? with
    | none => rw [hpi] at hd; cases hd
    | some p =>
    rw [hpi] at hd
    cases hd
    cases DatI.mono hJ hD with
    | list hb hbs =>
    cases hbs with
    | cons h1 r1 =>
    cases r1 with
    | cons h2 r2 =>
    cases r2
    cases h1
    cases h2 with
    | list hc hcs =>
    refine u_list R'.hd B' (B'.sub _ _ hb) fun h' B'' => ?_
    have hpm := hok p (List.mem_of_getElem? hpi)
    have hpm1 := hpm.1
    have hpm2 := hpm.2.1
    have hlen := hcs.length
    rw [List.length_map] at hlen
    have hdr : ps.drop i = p :: ps.drop (i + 1) := by
      have hlt := (List.getElem?_eq_some_iff.mp hpi).1
      rw [List.drop_eq_getElem_cons hlt, (List.getElem?_eq_some_iff.mp hpi).2]
    rw [hdr, wordsF] at hw
    repeat' (walk_at "mm")
    · rename_i hgt _ _ hlt
      obtain ⟨x0, hx0⟩ : ∃ x0, p.xs[0]? = some x0 := ⟨p.xs[0]'(by omega), List.getElem?_eq_getElem _⟩
      obtain ⟨t0, ht0⟩ := hcs.ints.get 0 x0 hx0
      have hhd : p.xs.headD 0 = x0 := by rw [List.headD_eq_head?_getD, List.head?_eq_getElem?, hx0]; rfl
      have hb0 := hpm.2.2 x0 (List.mem_of_getElem? hx0)
      rw [if_pos ⟨hgt, by omega⟩, hhd] at hw
      refine i_list (Bd.sub (by assumption) _ _ hc) (by decide) ht0 ?_ (by decide)
      repeat' (walk_at "mm")
      refine m_fmt3 (by assumption) hb0.1 (by omega) (by omega) (by omega) (by omega) fun t' k' h' Bz => ?_
      refine hQ _ _ ?_
      show Q _ _
      rw [hw]
      exact k _ _ _ _ (Bz.over ov hG).ret
    · rw [if_neg (by omega)] at hw
      exact hQ _ _ ⟨J, _, [], _, _, rfl, by assumption, rfl, _, _, rfl, by rw [hlen]; exact hw⟩
    · rw [if_neg (by omega)] at hw
      exact hQ _ _ ⟨J, _, [], _, _, rfl, by assumption, rfl, _, _, rfl, by rw [hlen]; exact hw⟩
  · rintro J m' mu' h tk B' hJ ⟨rfl, t', tk', hm, hw⟩
    rw [List.drop_eq_nil_of_le (by rw [hs.length, List.length_map]; exact Nat.le_refl _), wordsF] at hw
    repeat' (walk_at "mm")
    show Q _ _
    have := k tk (tk + 1) h J B'.ret
    rw [← hw] at this
    exact this
end
section
variable {prog : Program} {w : World} {A : Around} {E : Value → Shared → Prop} {s : Shared} {g : Gd} {e : Ent} {I : Fz} {L : Addr} {m : Str → Option Value} {mu : List (Addr × Sh)}
theorem l_sum {a : Addr} {vs : List Value} {ns : List Int} {Q : Value → Shared → Prop} (hh : A.handled = none) (B : Bd g e I L m mu s.heap) (ha : (Sh.list vs).At s.heap a) (hi : IntsAre vs ns) (h : ∀ t k h', Bd g e I L m mu h' → Q (.int ns.sum t) { s with heap := h', toks := k }) :
    wpAny (model prog w) A (call (.builtin "sum") [.ref a]) Q E s := by
  have hne : a ≠ s.heap.objs.size := Nat.ne_of_lt ha.lt
  refine call_sum_walkG (wpAny_pyIter_list ha.list ⟨_, _, _, _, _, _, fun i => ns.getD i 0, rfl, Walks.list (A := A.in1) hh s.heap.objs.size a hne vs.toArray, ⟨⟨_, Heap.get?_push_size _ rfl, rfl, rfl⟩, ha.list.at fun o q => Heap.get?_push_of_some _ q⟩, ?_, ?_, ?_⟩)
  · intro b hb
    rcases List.mem_cons.mp hb with q | q
    · rw [q]; show _ < (s.heap.push _).objs.size; rw [Heap.size_push]; exact Nat.lt_succ_self _
    · rw [List.mem_singleton.mp q]; show _ < (s.heap.push _).objs.size; rw [Heap.size_push]; exact Nat.lt_succ_of_lt ha.lt
  · intro i v hv
    have hv' : vs[i]? = some v := by simpa using hv
    have hlt : i < ns.length := by rw [← hi.length]; exact (List.getElem?_eq_some_iff.mp hv').1
    obtain ⟨t, ht⟩ := hi.get i _ (List.getElem?_eq_getElem hlt)
    rw [hv'] at ht
    cases ht
    exact ⟨t, by dsimp only; rw [List.getD_eq_getElem?_getD, List.getElem?_eq_getElem hlt]; rfl⟩
  · intro h' tk t' k
    have o := B.off (fresh s.heap)
    have := h t' tk h' ((B.push _).moveBut o.1 o.2.1 o.2.2.1 (Ne.symm o.2.2.2.1) o.2.2.2.2 fun b ob hb q => k b ob (by simpa using hb) q)
    rw [show vs.toArray.size = ns.length by rw [List.size_toArray]; exact hi.length, KBmo.pre_take ns _ (Nat.le_refl _), List.take_length]
    exact this
end
noncomputable def Row.reply : Row → Str
  | .three a _ _ => a
  | .two a _ => a
  | .num a _ => a
noncomputable def Rec.size (r : Rec) : Int := (r.parts.map fun p => (p.xs.length : Int)).sum
/-- what is due of a record that is wholly there -/
noncomputable def rowD (before : Str) (r : Rec) : Dat := match r.row with
  | .three a b c => .list [.str a, .str b, .str c]
  | .two a b => .list [.str a, .str b]
  | .num a n => .list [.str a, .tuple [.str before, .int n], .list (if n < 0 then (r.parts.drop 1).map fun p => .list [.bytes (byteArr (p.xs.drop 1)), .bool true] else (r.parts.drop 1).map fun p => .int (p.xs.headD 0))]
noncomputable def dueLoop (cut : Int) : List Rec → Int → Str → List Dat
  | [], _, _ => [.list [.str noData, .int cut]]
  | r :: rs, t, b => if t < r.size then [.list [.str (wordsF r.parts t), .int cut]] else rowD b r :: dueLoop cut rs (t - r.size) r.row.reply
noncomputable def dueF (rs : List Rec) (cut : Int) : List Dat := dueLoop cut rs cut (Str.ofString "")
section
variable {prog : Program} {w : World} {A : Around} {E : Value → Shared → Prop} {s : Shared} {mg mb : Str → Option Value} {fa : Nat → Addr} {G : Heap} {I : Fz}
/-- between the turns -/
inductive DueI (rs : List Rec) (cut : Int) (tc : Tok) (oa : Addr) (i : Nat) (J : Fz) (m' : Str → Option Value) (mu' : List (Addr × Sh)) : Prop
  | mk (ys : List Value) (ds : List Dat) (th : Int) (tt : Tok) (bb : Str) (tb : Tok) (h0 : mu' = [(oa, .list ys)]) (h1 : m' "rows" = some (.ref oa)) (h2 : m' "cut" = some (.int cut tc)) (h3 : m' "there" = some (.int th tt)) (h4 : m' "before" = some (.str bb tb)) (hds : DatIs J ys ds) (hl : ys.length = i) (hd : ds ++ dueLoop cut (rs.drop i) th bb = dueF rs cut)
set_option maxHeartbeats 8000000 in
theorem due_spec {rs : List Rec} {cut : Int} {tc : Tok} {pv : Value} {Q : Value → Shared → Prop} (T : Tops mg mb fa G) (hG : G.StaysIn s.heap) (R : Rm A 5) (hI : ∀ a sh, I a = some sh → sh.At s.heap a)
    (hp : DatI I pv (.list (rs.map Rec.dat))) (hn : rs.length ≤ 20) (hok : ∀ r ∈ rs, r.ok) (hne : ∀ r ∈ rs, ∀ p ∈ r.parts, 0 < p.xs.length) (hct : 0 ≤ cut ∧ cut ≤ 1000000)
    (k : ∀ v tk h' J, Ret I s.heap h' J → DatI J v (.list (dueF rs cut)) → Q v { s with heap := h', toks := tk }) :
    wpAny (model prog w) A (call (.ref (fa 17)) [pv, .int cut tc]) Q E s := by
  refine c_in 17 (binds := [("records", pv), ("cut", .int cut tc)]) T hG (by have := R.dp; omega) hI (fun _ _ _ _ => rfl) (fun cd h₀ B => ?_) (hloc := locs rfl)
  have R' := R.deeper (envX (fnName 17) (fnScope 17) s.heap.objs.size (fa 17) cd [])
  cases hp with
  | list ha hs =>
  rename_i a vs
  show wpAny _ _ (execs (fnBody 17) _) _ _ _
  refine wpAny_execs_cons ?_
  repeat (walk_at "mm")
  refine a_listM (by assumption) fun oa h1 B1 => ?_
  repeat (walk_at "mm")
  refine wpAny_For ?_
  repeat (walk_at "mm")
  refine for_list (DueI rs cut tc oa) R'.hd (by assumption) ha (by exact ⟨[], [], cut, tc, Str.ofString "", _, rfl, rfl, rfl, rfl, rfl, .nil, rfl, rfl⟩) (let_tup ?_) ?_ ?_
  · intro v hv
    obtain ⟨i, hi⟩ := List.getElem?_of_mem hv
    obtain ⟨r, a', _, _, _, _, rfl, _⟩ := rec_at hs hi
    exact ⟨_, rfl⟩
  · intro i v g' J m' mu' h tk hv ov B' hJ hP
    refine opq2 fun Qt Et hQ hE => ?_
    obtain ⟨ys, ds, th, tt, bb, tb, rfl, hm1, hm2, hm3, hm4, hds, hyl, hdue⟩ := hP
    obtain ⟨r, a', rv, b, us, hr, rfl, hb, hrow, hb2, hps, hul⟩ := rec_at (DatIs.mono hJ hs) hv
    have hrok := hok r (List.mem_of_getElem? hr)
    have hrl := hrok.1
    have hilt := (List.getElem?_eq_some_iff.mp hr).1
    rw [drop_of hr, dueLoop] at hdue
    refine u_list R'.hd B' (B'.sub _ _ hb) fun h2 B2 => ?_
    repeat (walk_at "mm")
    rename_i hx3 B3 hx4 B4
    refine comp_list (fun j J5 mu5 zs => mu5 = [(oa, .list ys)] ∧ IntsAre zs ((r.parts.take j).map fun p => (p.xs.length : Int))) R'.hd B4 hb2 ⟨rfl, .nil⟩ (by rw [hul, sizeLine_eq]; omega) (by decide) rfl (let_tup ?_) ?_ ?_
    · intro v hv
      obtain ⟨i, hi⟩ := List.getElem?_of_mem hv
      obtain ⟨p, a', _, _, _, _, rfl, _⟩ := part_at hps hi
      exact ⟨_, rfl⟩
    · intro j v5 g5 J5 C5 D5 m5 mu5 zs h5 tk5 hv5 ov5 B5 hJ5 hP5 hzl nL
      refine opq2 fun Qt5 Et5 hQ5 hE5 => ?_
      obtain ⟨rfl, hzs⟩ := hP5
      obtain ⟨p, a2, b2, tk2, ws, hp2, rfl, hc, hc2, hws, hwl⟩ := part_at (DatIs.mono hJ5 hps) hv5
      have hpok := (hrok.2 p (List.mem_of_getElem? hp2)).1
      refine u_list R'.hd B5 (B5.sub _ _ hc) fun h6 B6 => ?_
      repeat (walk_at "mm")
      refine hQ5 _ _ ⟨J5, _, _, _, _, rfl, by assumption, rfl, ?_⟩
      rw [take_of hp2, List.map_append]
      refine intsAre_append hzs ?_
      rw [hwl]
      exact .cons _ _ .nil
    rintro J5 C5 D5 mC5 mu5 zs h5 tk5 B5 hJ5 ⟨rfl, hzs⟩ hzl nC lD hCD oC oD
    refine comp_done B5 nC lD hCD oC oD fun h6 J6 B6 hJ6 hD => ?_
    rw [hul, List.take_length] at hzs
    repeat (walk_at "mm")
    refine l_sum R'.hd B6 (B6.sub _ _ hD) hzs fun t7 k7 h7 B7 => ?_
    have hsum : (r.parts.map fun p => (p.xs.length : Int)).sum = r.size := rfl
    rw [hsum]
    have hle4 : J.le J6 := hJ5.trans hJ6
    have hps6 := hps.mono hle4
    have hb26 := hle4 _ _ hb2
    have hrow6 := hrow.mono hle4
    repeat' (walk_at "mm")
    · have hlt : th < r.size := by assumption
      rw [if_pos hlt] at hdue
      rename_i x8 B8 _
      refine n_fn 16 (by assumption) T ?_
      refine c_fn T (Bd.tops (by assumption)) ?_
      repeat (walk_at "mm")
      · exact B8.tops
      · refine words_spec T B8.tops (R'.less (n := 3) (k := 1)) (fun a sh q => B8.sub a sh q) (.list hb26 hps6) hrok.2 fun t9 k9 h9 J9 ret9 => ?_
        have B9 := B8.after ret9
        repeat (walk_at "mm")
        rename_i a10 x10 J10 B10 l10 j10 a11 x11 J11 B11 l11 j11
        refine l_add B11 (B11.mus (oa, .list ys) (List.Mem.head _)).1 (B11.sub _ _ j11) (fun c12 h12 J12 B12 l12 j12 => ?_) (by rw [hyl, sizeLine_eq]; simp only [List.length_cons, List.length_nil]; omega)
        repeat (walk_at "mm")
        refine hQ _ _ (k _ _ _ _ (Bd.over B12 ov hG).ret (.list j12 ?_))
        rw [← hdue]
        refine (hds.mono (hle4.trans (ret9.le.trans (l10.trans (l11.trans l12))))).append (.one (.list ((l11.trans l12) _ _ j10) (.cons (.str _ _) (.cons (.int _ _) .nil))))
    · have hlt : ¬ th < r.size := by assumption
      rw [if_neg hlt] at hdue
      rename_i x8 B8 _
      cases hrw : r.row with
      | three ra rb rc =>
        rw [hrw] at hrow6
        cases hrow6 with
        | list hra hrs =>
        cases hrs with | cons q1 hrs => cases hrs with | cons q2 hrs => cases hrs with | cons q3 hrs =>
        cases q1; cases q2; cases q3; cases hrs
        repeat' (walk_at "mm")
        refine l_append (pre := []) (post := []) B8 rfl (fun h9 B9 => ?_) (by rw [hyl, sizeLine_eq]; omega)
        repeat' (walk_at "mm")
        refine hQ _ _ ⟨J6, _, _, _, _, rfl, by assumption, ?_⟩
        refine ⟨_, ds ++ [rowD bb r], _, _, _, _, rfl, hm1, hm2, rfl, rfl, (hds.mono hle4).append (.one ?_), by simp [hyl], ?_⟩
        · rw [rowD, hrw]; exact .list hra (.cons (.str _ _) (.cons (.str _ _) (.cons (.str _ _) .nil)))
        · rw [List.append_assoc]; rw [hrw] at hdue; exact hdue
      | two ra rb =>
        rw [hrw] at hrow6
        cases hrow6 with
        | list hra hrs =>
        cases hrs with | cons q1 hrs => cases hrs with | cons q2 hrs =>
        cases q1; cases q2; cases hrs
        repeat' (walk_at "mm")
        refine l_append (pre := []) (post := []) B8 rfl (fun h9 B9 => ?_) (by rw [hyl, sizeLine_eq]; omega)
        repeat' (walk_at "mm")
        refine hQ _ _ ⟨J6, _, _, _, _, rfl, by assumption, ?_⟩
        refine ⟨_, ds ++ [rowD bb r], _, _, _, _, rfl, hm1, hm2, rfl, rfl, (hds.mono hle4).append (.one ?_), by simp [hyl], ?_⟩
        · rw [rowD, hrw]; exact .list hra (.cons (.str _ _) (.cons (.str _ _) .nil))
        · rw [List.append_assoc]; rw [hrw] at hdue; exact hdue
      | num ra rn =>
        rw [hrw] at hrow6
        cases hrow6 with
        | list hra hrs =>
        cases hrs with | cons q1 hrs => cases hrs with | cons q2 hrs =>
        cases q1; cases q2; cases hrs
        repeat' (walk_at "mm")
        · rename_i x9 B9
          refine a_tup (by assumption) (fun a10 x10 J10 B10 l10 j10 => ?_) (by size_fits)
          repeat (walk_at "mm")
          refine ls_cut (vs := us) (lo := some 1) (hi := none) rfl rfl B10 (B10.sub _ _ (l10 _ _ hb26)).list (.int _ _) .none (fun b11 h11 J11 B11 l11 j11 => ?_) (by rw [hul, sizeLine_eq]; omega) rfl
          rw [show slicePick us.toArray (some 1) none none = (us.toArray.toList.drop 1).toArray from slicePick_from' us.toArray 1] at j11
          have hps11 : DatIs J11 (us.drop 1) ((r.parts.drop 1).map Part.dat) := by rw [List.map_drop]; exact (hps6.mono (l10.trans l11)).drop 1
          refine comp_list (fun j J5 mu5 zs => mu5 = [(oa, .list ys)] ∧ DatIs J5 zs (((r.parts.drop 1).take j).map fun p => Dat.list [.bytes (byteArr (p.xs.drop 1)), .bool true])) R'.hd B11 j11 ⟨rfl, .nil⟩ (by simp [sizeLine_eq]; omega) (by decide) rfl (let_tup ?_) ?_ ?_
          · intro v hv
            obtain ⟨i, hi⟩ := List.getElem?_of_mem hv
            obtain ⟨p, a', _, _, _, _, rfl, _⟩ := part_at hps11 (by simpa using hi)
            exact ⟨_, rfl⟩
          · intro j v5 g5 J5 C5 D5 m5 mu5 zs h5 tk5 hv5 ov5 B5 hJ5 hP5 hzl nL
            refine opq2 fun Qt5 Et5 hQ5 hE5 => ?_
            obtain ⟨rfl, hzs⟩ := hP5
            obtain ⟨p, a2, b2, tk2, ws, hp2, rfl, hc, hc2, hws, hwl⟩ := part_at (DatIs.mono hJ5 hps11) hv5
            have hpm := List.mem_of_mem_drop (List.mem_of_getElem? hp2)
            have hpok := hrok.2 p hpm
            have hpl := hpok.1
            have hp0 := hne r (List.mem_of_getElem? hr) p hpm
            refine u_list R'.hd B5 (B5.sub _ _ hc) fun h6 B6 => ?_
            repeat (walk_at "mm")
            rename_i x13 B13 x14 B14
            refine ls_cut (vs := ws) (lo := some 1) (hi := none) rfl rfl B14 (B14.sub _ _ hc2).list (.int _ _) .none (fun b15 h15 J15 B15 l15 j15 => ?_) (by rw [hwl, sizeLine_eq]; omega) rfl
            rw [show slicePick ws.toArray (some 1) none none = (ws.toArray.toList.drop 1).toArray from slicePick_from' ws.toArray 1] at j15
            repeat (walk_at "mm")
            refine l_bytes (ns := p.xs.drop 1) R'.hd B15 (B15.sub _ _ j15) (by have := (hws.drop 1); rw [← List.map_drop] at this; simpa using this.ints) (fun n hn => hpok.2.2 n (List.mem_of_mem_drop hn)) (fun t16 k16 h16 B16 => ?_) (by simp only [List.length_drop, sizeLine_eq]; simp; omega)
            repeat (walk_at "mm")
            rename_i a17 x17 J17 B17 l17 j17
            refine hQ5 _ _ ⟨J17, _, _, _, _, rfl, B17, rfl, ?_⟩
            rw [take_of hp2, List.map_append]
            exact (hzs.mono (l15.trans l17)).append (.one (.list j17 (.cons (.bytes _ _) (.cons (.bool _) .nil))))
          rintro J12 C12 D12 mC12 mu12 zs h12 tk12 B12 hJ12 ⟨rfl, hzs⟩ hzl nC lD hCD oC oD
          refine comp_done B12 nC lD hCD oC oD fun h13 J13 B13 hJ13 hD => ?_
          rw [List.take_of_length_le (by simp; omega)] at hzs
          repeat (walk_at "mm")
          rename_i a14 x14 J14 B14 l14 j14
          refine l_append (pre := []) (post := []) B14 rfl (fun h15 B15 => ?_) (by rw [hyl, sizeLine_eq]; omega)
          have hra14 := ((l10.trans l11).trans ((hJ12.trans hJ13).trans l14)) _ _ hra
          repeat (walk_at "mm")
          refine hQ _ _ ⟨J14, _, _, _, _, rfl, by assumption, ?_⟩
          refine ⟨_, ds ++ [rowD bb r], _, _, _, _, rfl, hm1, hm2, rfl, rfl, (hds.mono (hle4.trans ((l10.trans l11).trans ((hJ12.trans hJ13).trans l14)))).append (.one ?_), by simp [hyl], ?_⟩
          · rw [rowD, hrw]
            dsimp only
            rw [if_pos (by assumption)]
            exact .list j14 (.cons (.str _ _) (.cons (.tuple ((l11.trans ((hJ12.trans hJ13).trans l14)) _ _ j10) (.cons (.str _ _) (.cons (.int _ _) .nil))) (.cons (.list (l14 _ _ hD) (hzs.mono (hJ13.trans l14))) .nil)))
          · rw [List.append_assoc]; rw [hrw] at hdue; exact hdue
        · rename_i x9 B9
          refine a_tup (by assumption) (fun a10 x10 J10 B10 l10 j10 => ?_) (by size_fits)
          repeat (walk_at "mm")
          refine ls_cut (vs := us) (lo := some 1) (hi := none) rfl rfl B10 (B10.sub _ _ (l10 _ _ hb26)).list (.int _ _) .none (fun b11 h11 J11 B11 l11 j11 => ?_) (by rw [hul, sizeLine_eq]; omega) rfl
          rw [show slicePick us.toArray (some 1) none none = (us.toArray.toList.drop 1).toArray from slicePick_from' us.toArray 1] at j11
          have hps11 : DatIs J11 (us.drop 1) ((r.parts.drop 1).map Part.dat) := by rw [List.map_drop]; exact (hps6.mono (l10.trans l11)).drop 1
          refine comp_list (fun j J5 mu5 zs => mu5 = [(oa, .list ys)] ∧ DatIs J5 zs (((r.parts.drop 1).take j).map fun p => Dat.int (p.xs.headD 0))) R'.hd B11 j11 ⟨rfl, .nil⟩ (by simp [sizeLine_eq]; omega) (by decide) rfl (let_tup ?_) ?_ ?_
          · intro v hv
            obtain ⟨i, hi⟩ := List.getElem?_of_mem hv
            obtain ⟨p, a', _, _, _, _, rfl, _⟩ := part_at hps11 (by simpa using hi)
            exact ⟨_, rfl⟩
          · intro j v5 g5 J5 C5 D5 m5 mu5 zs h5 tk5 hv5 ov5 B5 hJ5 hP5 hzl nL
            refine opq2 fun Qt5 Et5 hQ5 hE5 => ?_
            obtain ⟨rfl, hzs⟩ := hP5
            obtain ⟨p, a2, b2, tk2, ws, hp2, rfl, hc, hc2, hws, hwl⟩ := part_at (DatIs.mono hJ5 hps11) hv5
            have hpm := List.mem_of_mem_drop (List.mem_of_getElem? hp2)
            have hpok := hrok.2 p hpm
            have hpl := hpok.1
            have hp0 := hne r (List.mem_of_getElem? hr) p hpm
            refine u_list R'.hd B5 (B5.sub _ _ hc) fun h6 B6 => ?_
            repeat (walk_at "mm")
            obtain ⟨x0, hx0⟩ : ∃ x0, p.xs[0]? = some x0 := ⟨p.xs[0]'hp0, List.getElem?_eq_getElem _⟩
            obtain ⟨t0, ht0⟩ := hws.ints.get 0 x0 hx0
            have hhd : p.xs.headD 0 = x0 := by rw [List.headD_eq_head?_getD, List.head?_eq_getElem?, hx0]; rfl
            refine i_list (Bd.sub (by assumption) _ _ hc2) (by decide) ht0 ?_ (by decide)
            refine hQ5 _ _ ⟨J5, _, _, _, _, rfl, by assumption, rfl, ?_⟩
            rw [take_of hp2, List.map_append]
            exact hzs.append (.one (by rw [← hhd]; exact .int _ _))
          rintro J12 C12 D12 mC12 mu12 zs h12 tk12 B12 hJ12 ⟨rfl, hzs⟩ hzl nC lD hCD oC oD
          refine comp_done B12 nC lD hCD oC oD fun h13 J13 B13 hJ13 hD => ?_
          rw [List.take_of_length_le (by simp; omega)] at hzs
          repeat (walk_at "mm")
          rename_i a14 x14 J14 B14 l14 j14
          refine l_append (pre := []) (post := []) B14 rfl (fun h15 B15 => ?_) (by rw [hyl, sizeLine_eq]; omega)
          have hra14 := ((l10.trans l11).trans ((hJ12.trans hJ13).trans l14)) _ _ hra
          repeat (walk_at "mm")
          refine hQ _ _ ⟨J14, _, _, _, _, rfl, by assumption, ?_⟩
          refine ⟨_, ds ++ [rowD bb r], _, _, _, _, rfl, hm1, hm2, rfl, rfl, (hds.mono (hle4.trans ((l10.trans l11).trans ((hJ12.trans hJ13).trans l14)))).append (.one ?_), by simp [hyl], ?_⟩
          · rw [rowD, hrw]
            dsimp only
            rw [if_neg (by assumption)]
            exact .list j14 (.cons (.str _ _) (.cons (.tuple ((l11.trans ((hJ12.trans hJ13).trans l14)) _ _ j10) (.cons (.str _ _) (.cons (.int _ _) .nil))) (.cons (.list (l14 _ _ hD) (hzs.mono (hJ13.trans l14))) .nil)))
          · rw [List.append_assoc]; rw [hrw] at hdue; exact hdue
  · rintro J m' mu' h tk B' hJ ⟨ys, ds, th, tt, bb, tb, rfl, hm1, hm2, hm3, hm4, hds, hyl, hdue⟩
    rw [List.drop_eq_nil_of_le (by rw [hs.length, List.length_map]; exact Nat.le_refl _), dueLoop] at hdue
    have hvl := hs.length
    rw [List.length_map] at hvl
    repeat (walk_at "mm")
    rename_i a10 x10 J10 B10 l10 j10 a11 x11 J11 B11 l11 j11
    refine l_add B11 (B11.mus (oa, .list ys) (List.Mem.head _)).1 (B11.sub _ _ j11) (fun c12 h12 J12 B12 l12 j12 => ?_) (by rw [hyl, sizeLine_eq]; simp only [List.length_cons, List.length_nil]; omega)
    repeat (walk_at "mm")
    refine k _ _ _ _ B12.ret (.list j12 ?_)
    rw [← hdue]
    exact (hds.mono (l10.trans (l11.trans l12))).append (.one (.list ((l11.trans l12) _ _ j10) (.cons (.str _ _) (.cons (.int _ _) .nil))))
end
/-- the function in the stream's def -/
noncomputable def rdParams : Arguments := match (fnBody 11 : List Stmt)[(1 : Nat)]? with | some (.FunctionDef _ a _ _ _ _ _ _ _ _) => a | _ => ⟨[], [], none, [], [], none, []⟩
noncomputable def rdBody : List Stmt := match (fnBody 11 : List Stmt)[(1 : Nat)]? with | some (.FunctionDef _ _ b _ _ _ _ _ _ _) => b | _ => []
noncomputable def rdScope : Scope := match (fnBody 11 : List Stmt)[(1 : Nat)]? with | some (.FunctionDef _ _ _ _ _ _ s _ _ _) => s | _ => default
noncomputable def rdQual : Str := Str.ofString "_law_stream.<locals>._law_read"
/-- what the written part says of the stream's class -/
structure Kf (K : Frag) (C : Addr) (Gt : Heap) : Prop where
  X : K.In Gt
  ga : findIn K (.ref C) "__getattribute__" = some (some (.builtin "object.__getattribute__"))
  gn : findIn K (.ref C) "__getattr__" = some none
  rd : findIn K (.ref C) "read" = some none
theorem Kf.keeps {K : Frag} {C : Addr} {G G' : Heap} (k : Kf K C G) (st : G.StaysIn G') : Kf K C G' := { k with X := k.X.keeps st }
/-- a stream over octets, its place at p -/
structure Stm (K : Frag) (C : Addr) (Gb : Heap) (x p fr : Addr) (oct : Array UInt8) : Prop where
  inst : ∃ ox od, InstAt Gb x ox C (some od) ∧ findObj K C (some od) "read" = some (.value (.ref fr))
  fn : ∃ of c1 c2 t cl doc pm an cd ct, Gb.get? fr = some of ∧ of.data = .func (fnX (Str.ofString "_law_read") rdQual rdParams rdBody rdScope cl .none .none doc pm an cd ct) ∧ Gb.CodeRec cd rdQual ∧
    cl.lookup (Str.ofString "octets") = some c1 ∧ cl.lookup (Str.ofString "place") = some c2 ∧ (Sh.cell (some (.bytes oct t))).At Gb c1 ∧ (Sh.cell (some (.ref p))).At Gb c2
theorem InstAt.keeps {h h' : Heap} {x C : Addr} {ox : Obj} {od : Option Obj} (i : InstAt h x ox C od) (k : h.StaysIn h') : InstAt h' x ox C od := by
  refine { i with at_ := k _ _ i.at_, dict := ?_ }
  have := i.dict
  cases q : ox.dict <;> cases r : od <;> rw [q, r] at this <;> first | exact this | exact k _ _ this
theorem Stm.keeps {K : Frag} {C : Addr} {G G' : Heap} {x p fr : Addr} {oct : Array UInt8} (k : Stm K C G x p fr oct) (st : G.StaysIn G') : Stm K C G' x p fr oct where
  inst := let ⟨ox, od, a, b⟩ := k.inst; ⟨ox, od, InstAt.keeps a st, b⟩
  fn := let ⟨of, c1, c2, t, cl, doc, pm, an, cd, ct, a, b, c, d, e, f, g⟩ := k.fn; ⟨of, c1, c2, t, cl, doc, pm, an, cd, ct, st _ _ a, b, c.keeps st, d, e, f.keep fun o => st _ o, g.keep fun o => st _ o⟩
section
variable {prog : Program} {w : World} {A : Around} {E : Value → Shared → Prop} {s : Shared} {K : Frag} {C x p fr : Addr} {Gt Gb : Heap} {oct : Array UInt8}
theorem gm_read {pl : Sem Bool} {Q : Value × List Value → Shared → Prop} (k : Kf K C Gt) (S : Stm K C Gb x p fr oct) (ht : Gt.StaysIn s.heap) (hb : Gb.StaysIn s.heap) (h : Q (.ref fr, []) { s with toks := s.toks + 1 }) :
    wpAny (model prog w) A (getMethod (.ref x) (Str.ofString "read") pl) Q E s := by
  obtain ⟨ox, od, i, f⟩ := S.inst
  have k' := k.keeps ht
  exact method_usual k'.X (InstAt.keeps i hb) k'.ga k'.gn k'.rd rfl (get_value k'.X (InstAt.keeps i hb) k'.ga f rfl h)
theorem c_read {Q : Value → Shared → Prop} {ex : Expr} {rest : List Expr} {pos : Pos} {env : Env} (S : Stm K C Gb x p fr oct) (hG : Gb.StaysIn s.heap)
    (h : wpAny (model prog w) A (spliced (backTo pos (starEach (ex :: rest) env))) (fun vs s₁ => Gb.StaysIn s₁.heap ∧ wpAny (model prog w) A (call (.ref fr) vs) Q E s₁) E s)
    (he : starEach (ex :: rest) env = (false, eval ex env) :: starEach rest env := by rfl) :
    wpAny (model prog w) A (callWith pos (.ref fr) [] (backTo pos (starEach (ex :: rest) env)) []) Q E s := by
  obtain ⟨of, c1, c2, t, cl, doc, pm, an, cd, ct, a, b, c, d, e, f, g⟩ := S.fn
  exact callWith_def_at a b (wpAny_mono h (fun vs s₁ q => ⟨q.1 _ _ a, q.2⟩) fun _ _ q => q) he
/-- a cut of bytes -/
theorem bs_cut {g : Gd} {e : Ent} {I : Fz} {L : Addr} {m : Str → Option Value} {mu : List (Addr × Sh)} {value slice : Expr} {c : Addr} {b : Array UInt8} {tb : Tok} {vl vu : Value} {lo hi : Option Int} {H : Heap} {Q : Value → Shared → Prop} (hH : s.heap = H.push { cls := .type "slice", data := .fields #[vl, vu, .none] }) (hc : c = H.objs.size) (B : Bd g e I L m mu H)
    (pl : IsPart vl lo) (pu : IsPart vu hi)
    (h : ∀ t' k, Bd g e I L m mu s.heap → Q (.bytes (KBy.picked b lo hi) t') { s with toks := k }) (hsz : b.size ≤ sizeLine)
    (hs : subscripted slice false (.bytes b tb) (.ref c) = operate [.ref c, .bytes b tb] (getItem (.bytes b tb) (.ref c)) := by with_unfolding_all rfl)
    (ht : ∀ r, letTemporaryGo value (.bytes b tb) r = pure () := by intro _; with_unfolding_all rfl) :
    wpAny (model prog w) A (subscriptTail value slice (.bytes b tb) (.ref c)) Q E s := by
  subst hc
  have B' : Bd g e I L m mu s.heap := by rw [hH]; exact B.push _
  exact tail_of_ItemOn ⟨"bytes", _, FB.slot_bytes_getitem.lookup, typeIs_bytes _ _ _, getItem_meets (typeIs_bytes _ _ _) (by decide) FB.slot_bytes_getitem FB.entry_bytes_getitem (FB.args_bytes_getitem_2 _ _) (KBc.meets_slice2 b tb _ pl pu)
    ⟨by rw [hH]; exact Heap.IsSliceOf.new _ _ _ _, Nat.le_trans (KBc.size_picked_le b lo hi) hsz, fun t' k => h _ _ B'⟩⟩ hs ht
theorem picked_nat (b : Array UInt8) (i n : Nat) (hi : i ≤ b.size) : KBy.picked b (some (i : Int)) (some ((i : Int) + (n : Int))) = ((b.toList.drop i).take n).toArray := by
  rw [KBc.picked_eq]
  simp only [Option.elim]
  rw [clipAt_nat, show ((i : Int) + (n : Int)) = ((i + n : Nat) : Int) by omega, clipAt_nat]
  congr 1
  rw [Nat.min_eq_left hi, List.take_eq_take_iff, List.length_drop, Array.length_toList]
  omega
/-- an item of a list that may change -/
theorem l_set {g : Gd} {e : Ent} {I : Fz} {L : Addr} {m : Str → Option Value} {mu pre post : List (Addr × Sh)} {a : Addr} {vs : List Value} {k : Int} {t : Tok} {v : Value} {Q : Unit → Shared → Prop} (B : Bd g e I L m mu s.heap) (hmu : mu = pre ++ (a, .list vs) :: post)
    (h0 : 0 ≤ k) (hfit : k < 2 ^ 63) (hn : k < vs.length) (h : ∀ h', Bd g e I L m (pre ++ (a, .list (vs.set k.toNat v)) :: post) h' → Q () { s with heap := h' }) : wpAny (model prog w) A (setItem (.ref a) (.int k t) v) Q E s := by
  have P := (B.mus (a, .list vs) (by simp [hmu])).1
  obtain ⟨o, ho, hc, hd, n, hdt⟩ := id P
  have hl := P.list
  unfold setItem
  try with_reducible refine wpAny_holding ?_
  first | refine wpAny_bind (wpAny_pure ?_) | skip
  refine wpAny_bind (wpAny_sequenceKey hl.typeIs (by decide) ?_)
  refine wpAny_bind (wpAny_callSpecial?_slot (name := Str.ofString "__setitem__") hl.typeIs slot_list_setitem
    (wpAny_call_entry slot_list_setitem hl.typeIs entry_list_setitem ?_ (args_list_setitem _ _ _)))
  show wpAny _ _ (Builtin.List.listSubscript? (.int k t) >>= _) _ _ s
  refine wpAny_bind (wpAny_listSubscript_int (fitsIndex_of h0 hfit) ?_)
  clear hfit
  obtain ⟨j, rfl⟩ := Int.eq_ofNat_of_zero_le h0
  have hj : j < vs.toArray.size := by simp; omega
  show wpAny _ _ ((seqItemAt a j >>= fun r => pure (r.map (j, ·))) >>= _) _ _ s
  refine wpAny_bind (wpAny_bind (wpAny_seqItemAt ho hdt (wpAny_pure ?_)))
  rw [Array.getElem?_eq_getElem hj]
  show wpAny _ _ (setSeqItemAt a j v >>= _) _ _ s
  obtain ⟨n', hd'⟩ := Obj.data_mapSeq hdt (·.setIfInBounds j v)
  have hfin : (Sh.list (vs.set j v)).At (s.heap.update a (Obj.mapSeq (·.setIfInBounds j v))) a :=
    ⟨_, Heap.get?_update_self _ ho (Obj.isFreed_of_seq hd'), (Obj.cls_mapSeq ..).trans hc, (dict_mapSeq ..).trans hd, n', by rw [hd']; simp⟩
  have fin := h _ (B.upd hmu (fun b o hb q => (Heap.get?_update_other _ _ (Ne.symm hb)).trans q) hfin)
  refine wpAny_bind (wpAny_setSeqItemAt ho hdt ?_)
  first
    | exact wpAny_bind (wpAny_pure (wpAny_pure ⟨.none, rfl, wpAny_pure fin⟩))
    | exact wpAny_pure ⟨.none, rfl, wpAny_pure fin⟩
theorem read_spec {Q : Value → Shared → Prop} {n k : Nat} {t u : Tok} {mg mb : Str → Option Value} {fa : Nat → Addr} (T : Tops mg mb fa Gt) (hT : Gt.StaysIn Gb) (S : Stm K C Gb x p fr oct) (hR : Rm A 2) (hb : Gb.StaysIn s.heap) (hp : (Sh.list [.int k t]).At s.heap p) (hpG : Gb.get? p = none) (hk : k ≤ oct.size) (hn : n ≤ 1000) (ho : oct.size ≤ 1000000)
    (h : ∀ h' tk v u', (∀ b o, b ≠ p → s.heap.get? b = some o → h'.get? b = some o) → (Sh.list [.int (k + ((oct.toList.drop k).take n).length : Nat) u']).At h' p → Q (.bytes ((oct.toList.drop k).take n).toArray v) { s with heap := h', toks := tk }) :
    wpAny (model prog w) A (call (.ref fr) [.int n u]) Q E s := by
  obtain ⟨of, c1, c2, t1, cl, doc, pm, an, cd, ct, a, b, c, d, e, f, g⟩ := S.fn
  have hid : Gb.StaysIn (hideAll s.heap [p]) := fun b o q => hideAll_get _ (hb b o q) fun r => by rw [List.mem_singleton.mp r, hpG] at q; cases q
  have n1 : c1 ≠ p := fun q => by obtain ⟨o, ho, _⟩ := f; rw [q, hpG] at ho; cases ho
  have n2 : c2 ≠ p := fun q => by obtain ⟨o, ho, _⟩ := g; rw [q, hpG] at ho; cases ho
  have n12 : c1 ≠ c2 := fun q => by obtain ⟨o, ho, ho'⟩ := f; obtain ⟨o2, h2, h2'⟩ := g; rw [q, h2] at ho; cases ho; exact absurd (ho'.symm.trans h2') (by simp)
  refine c_inF (Gt := Gt) (Gb := hideAll s.heap [p]) (I := fun a => if a = c1 then some (.cell (some (.bytes oct t1))) else if a = c2 then some (.cell (some (.ref p))) else none) (mu := [(p, .list [.int k t])]) (binds := [("n", .int n u)]) ((T.nolimit.keeps hT).keeps hb) (hb _ _ a) b (c.keeps hb) (fun b o q => hid b o (hT b o q)) (fun b o q => of_hideAll _ q) (by have := hR.dp; omega)
    (fun a sh q => by
      split at q
      · rename_i r; cases q; rw [r]; exact f.keep fun o => hb _ o
      · split at q
        · rename_i r; cases q; rw [r]; exact g.keep fun o => hb _ o
        · cases q)
    (fun q hq => by rw [List.mem_singleton.mp hq]; exact ⟨hp, by dsimp only; rw [if_neg (Ne.symm n1), if_neg (Ne.symm n2)], hideAll_none _ (List.mem_singleton.mpr rfl)⟩) (by simp) rfl (fun h₀ B => ?_) (hloc := locs rfl)
  have hR' := Rm.deeper (n := 1) hR (envX rdQual rdScope s.heap.objs.size fr cd cl)
  generalize A.deeper _ = A' at hR' ⊢
  generalize hI : (fun a => if a = c1 then some (Sh.cell (some (.bytes oct t1))) else if a = c2 then some (.cell (some (.ref p))) else none) = I at B
  have i1 : I c1 = some (.cell (some (.bytes oct t1))) := by rw [← hI]; exact if_pos rfl
  have i2 : I c2 = some (.cell (some (.ref p))) := by rw [← hI]; dsimp only; rw [if_neg (Ne.symm n12), if_pos rfl]
  with_unfolding_all show wpAny _ _ (execs (_ :: _ :: _ :: []) _) _ _ _
  repeat' (walk_at "mm")
  with_unfolding_all refine bs_cut rfl rfl (by assumption) (IsPart.int _ _) (IsPart.int _ _) ?_ (by rw [sizeLine_eq]; omega)
  intro tx kx Bx
  rw [picked_nat _ _ _ hk]
  repeat' (walk_at "mm")
  refine l_set (pre := []) (post := []) (by assumption) rfl (by decide) (by decide) (by show (0 : Int) < (1 : Nat); decide) ?_
  intro hx Bx
  dsimp only
  repeat' (walk_at "mm")
  have fin := (Bd.mus Bx (p, _) (List.Mem.head _)).1
  refine h _ _ _ _ (fun b o hb q => Bx.base _ _ (hideAll_get _ q (by simpa using hb))) (by rw [Int.natCast_add]; rw [List.size_toArray] at fin; exact fin)
end
section
variable {prog : Program} {w : World} {A : Around} {E : Value → Shared → Prop} {s : Shared} {K : Frag} {C x p fr : Addr} {Gt Gb : Heap} {oct : Array UInt8} {mg mb : Str → Option Value} {fa : Nat → Addr} {l : List Env}
noncomputable def msg1 : Str := Str.ofString "not enough data in stream to read uint1"
theorem hide_stays {G h : Heap} {p : Addr} (hb : G.StaysIn h) (hp : G.get? p = none) : G.StaysIn (hideAll h [p]) := fun b o q => hideAll_get _ (hb b o q) fun r => by rw [List.mem_singleton.mp r, hp] at q; cases q
theorem hide_get {h : Heap} {p b : Addr} {o : Obj} (q : h.get? b = some o) (n : b ≠ p) : (hideAll h [p]).get? b = some o := hideAll_get _ q (by simpa using n)
theorem uint1_spec {Q : Value → Shared → Prop} {k : Nat} {t : Tok} (kf : Kf K C Gt) (T : Tops mg mb fa Gt) (hT : Gt.StaysIn Gb) (S : Stm K C Gb x p fr oct) (hR : Rm A 4) (hfr : A.frames = some l) (hl : s.heap.FunFrames Gb l) (hb : Gb.StaysIn s.heap) (hp : (Sh.list [.int k t]).At s.heap p) (hpG : Gb.get? p = none) (hk : k ≤ oct.size) (ho : oct.size ≤ 1000000)
    (hQ : ∀ b r h' tk v u, oct.toList.drop k = b :: r → (∀ b o, b ≠ p → s.heap.get? b = some o → h'.get? b = some o) → (Sh.list [.int (k + 1 : Nat) u]).At h' p → Q (.int (b.toNat : Nat) v) { s with heap := h', toks := tk })
    (hE : ∀ e h' tk v u, oct.toList.drop k = [] → Err Gb l .none (.type "ValueError") [.str msg1 v] [(p, .list [.int k u])] s.heap e h' → E (.ref e) { s with heap := h', toks := tk }) :
    wpAny (model prog w) A (call (.ref (fa 1)) [.ref x]) Q E s := by
  refine c_inX 1 (Gb := hideAll s.heap [p]) (I := Fz.nil) (mu := [(p, .list [.int k t])]) (binds := [("f", .ref x)]) T (fun b o q => hide_stays hb hpG b o (hT b o q)) (fun b o q => of_hideAll _ q) (by have := hR.dp; omega) (fun _ _ q => by cases q)
    (fun q hq => by rw [List.mem_singleton.mp hq]; exact ⟨hp, rfl, hideAll_none _ (List.mem_singleton.mpr rfl)⟩) (by simp) (fun _ _ _ _ => rfl) (fun cd h₀ B => ?_) (hloc := locs rfl)
  have hR' := Rm.deeper (n := 3) hR (envX (fnName 1) (fnScope 1) s.heap.objs.size (fa 1) cd [])
  have hfr' := Around.frames_deeper (env := envX (fnName 1) (fnScope 1) s.heap.objs.size (fa 1) cd []) hfr
  generalize A.deeper _ = A' at hR' hfr' ⊢
  have hid := hide_stays hb hpG
  with_unfolding_all show wpAny _ _ (execs (_ :: _ :: _ :: []) _) _ _ _
  repeat' (walk_at "mm")
  refine gm_read kf S (fun b o q => B.base _ _ (hid _ _ (hT _ _ q))) (fun b o q => B.base _ _ (hid _ _ q)) ?_
  dsimp only
  refine c_read S (fun b o q => B.base _ _ (hid _ _ q)) ?_
  repeat' (walk_at "mm")
  · exact fun b o q => B.base _ _ (hid _ _ q)
  refine read_spec (n := 1) (k := k) (t := t) T hT S (Rm.less (k := 1) hR') (fun b o q => B.base _ _ (hid _ _ q)) (B.mus _ (List.Mem.head _)).1 hpG hk (by decide) ho ?_
  intro h₁ tk₁ v₁ u₁ keep₁ hp₁
  have B₁ := B.upd (pre := []) (post := []) rfl keep₁ hp₁
  clear keep₁ hp₁ B
  cases hd : oct.toList.drop k with
  | nil =>
    rw [hd] at B₁
    dsimp only [List.take, List.nil_append] at B₁ ⊢
    repeat' (walk_at "mm")
    refine b_truthy (v := false) rfl (fun k => ?_) (by decide)
    dsimp only
    repeat' (walk_at "mm")
    refine Raise_madeB F.excCall_ValueError F.excRaise_ValueError hR'.hd ?_
    repeat' (walk_at "mm")
    rename_i M
    refine out_made (l := l) hfr' hl (by assumption) hid M.of fun h₂ er => ?_
    exact hE _ _ _ _ _ hd er
  | cons c r =>
    rw [hd] at B₁
    dsimp only [List.take, List.nil_append] at B₁ ⊢
    repeat' (walk_at "mm")
    refine b_truthy (v := true) rfl (fun k => ?_) (by show 1 ≤ 1000000; decide)
    dsimp only
    repeat' (walk_at "mm")
    refine b_item (l := [c]) (c := c) (by decide) rfl (by show 1 ≤ 1000000; decide) ?_
    dsimp only
    rename_i B₂
    exact hQ _ _ _ _ _ _ hd (fun b o n q => B₂.base _ _ (hide_get q n)) (B₂.mus _ (List.Mem.head _)).1
end
open PySem.Builtin PySem.Builtin._codecs
theorem latin_run (id : String) (l : List UInt8) (hl : l.length ≤ sizeLine) : runDecoder id latin1Decoder none true l.toArray 0 [] = pure ((l.map (·.toNat)).toArray, l.length) := by
  unfold runDecoder
  simp only [Std.Legacy.Range.forIn_eq_forIn_range']
  generalize hf : (fun (x : Nat) (__s : Nat × Array Nat × Faults) => _ : Nat → Nat × Array Nat × Faults → Sem (ForInStep (Nat × Array Nat × Faults))) = f
  have step : ∀ (i j : Nat) (st : Faults), j < l.length → f i (j, ((l.take j).map (·.toNat)).toArray, st) = pure (.yield (j + 1, ((l.take (j + 1)).map (·.toNat)).toArray, st)) := by
    intro i j st hj
    rw [← hf]
    dsimp only
    rw [if_neg (by simp; omega), if_neg (by simp; omega)]
    have : latin1Decoder.find true l.toArray j = .text [(l[j]).toNat] (j + 1) := by
      show Found.text [(l.toArray.getD j 0).toNat] (j + 1) = _
      simp [Array.getD, hj]
    rw [this]
    dsimp only
    congr 4
    rw [List.take_add_one, List.getElem?_eq_getElem hj]
    rw [List.map_append]
    simp only [Option.toList, List.map_cons, List.map_nil, List.append_toArray]
  have loop : ∀ (k j : Nat) (st : Faults), j + k = l.length → forIn (List.range' j k) (j, ((l.take j).map (·.toNat)).toArray, st) f = pure (l.length, (l.map (·.toNat)).toArray, st) := by
    intro k
    induction k with
    | zero => intro j st h; rw [show j = l.length by omega, List.take_length]; rfl
    | succ k ih =>
      intro j st h
      rw [List.range'_succ, List.forIn_cons, step j j st (by omega)]
      show forIn (List.range' (j + 1) k) _ f = _
      exact ih (j + 1) st (by omega)
  have := loop l.length 0 {} (by omega)
  simp only [List.take_zero, List.map_nil] at this
  simp only [Std.Legacy.Range.size, List.size_toArray, Nat.sub_zero, Nat.add_sub_cancel, Nat.div_one]
  rw [this]
  rfl
theorem latin_road {id : String} {b : Array UInt8} : decodeRoad id b (Str.ofString "latin-1") none [] = (runDecoder id latin1Decoder none true b 0 [] >>= fun r => mkStr ⟨r.1⟩) := by kernel_rfl
theorem latin_entry {c : UInt8} {cs : List UInt8} {t t1 : Tok} : «bytes.decode» ⟨[.bytes (c :: cs).toArray t, .str (Str.ofString "latin-1") t1], []⟩ = (mkStr (Str.ofString "utf-8") >>= fun _ => mkStr (Str.ofString "latin-1") >>= fun e => mkStr (Str.ofString "bytes.decode") >>= fun d =>
    call (.builtin "_codecs.decode.text") [.bytes (c :: cs).toArray t, e, .none, d] >>= fun v => ret v) := by kernel_rfl
theorem latin_text {l : List UInt8} {t t1 t2 : Tok} {d : Str} (hl : l.length ≤ sizeLine) :
    Meets («_codecs.decode.text» ⟨[.bytes l.toArray t, .str (Str.ofString "latin-1") t1, .none, .str d t2], []⟩) (fun _ R s => R (.ok (.ret (.str ⟨(l.map (·.toNat)).toArray⟩ s.toks))) { s with toks := s.toks + 1 }) := by
  refine .of_wp fun prog w A R s h => ?_
  show wpAny _ _ (Bytes.bytesLike _ (.bytes _ t) >>= fun r => _) _ _ s
  refine wpAny_bind (wpAny_of_eq KBd.like_eq ?_)
  refine wpAny_bind (wpAny_of_eq KBd.held_eq ?_)
  show wpAny _ _ (_codecs.decodeRoad _ _ (PySem.Str.ofString "latin-1") none [] >>= fun v => _) _ _ s
  rw [latin_road, latin_run _ _ hl]
  refine wpAny_bind (wpAny_bind (wpAny_pure ?_))
  exact wpAny_mkStr (wpAny_pure ⟨_, rfl, h⟩) (by show (l.map _).toArray.size ≤ _; simpa using hl)
theorem latin_meets {c : UInt8} {cs : List UInt8} {t t1 : Tok} (hl : (c :: cs).length ≤ sizeLine) :
    Meets («bytes.decode» ⟨[.bytes (c :: cs).toArray t, .str (Str.ofString "latin-1") t1], []⟩) (fun _ R s => ∀ t' k, R (.ok (.ret (.str ⟨((c :: cs).map (·.toNat)).toArray⟩ t'))) { s with toks := k }) := by
  refine .of_wp fun prog w A R s h => ?_
  rw [latin_entry]
  refine wpAny_bind (wpAny_mkStr ?_ (by decide))
  refine wpAny_bind (wpAny_mkStr ?_ (by decide))
  refine wpAny_bind (wpAny_mkStr ?_ (by decide))
  exact wpAny_bind (call_function_meets KBd.kind_text KBd.plain_text KBd.entry_text (KBd.args_text _ _ _ _) (latin_text hl) (wpAny_pure ⟨_, rfl, h _ _⟩))
theorem latin_args (a b : Value) : argsOk "bytes.decode" ⟨[a, b], []⟩ := by unfold argsOk; kernel_rfl
section
variable {prog : Program} {w : World} {A : Around} {E : Value → Shared → Prop} {s : Shared}
theorem latin_empty {t t1 : Tok} : «bytes.decode» ⟨[.bytes #[] t, .str (Str.ofString "latin-1") t1], []⟩ = (rule "bytes.decode.empty" >>= fun _ => retStr Str.empty) := by kernel_rfl
theorem b_latin {l : List UInt8} {t t1 : Tok} {Q : Value → Shared → Prop} (hl : l.length ≤ 1000000) (h : ∀ t' k, Q (.str ⟨(l.map (·.toNat)).toArray⟩ t') { s with toks := k }) :
    wpAny (model prog w) A (call (.builtin "bytes.decode") [.bytes l.toArray t, .str (Str.ofString "latin-1") t1]) Q E s := by
  cases l with
  | nil => 
    have M : Meets («bytes.decode» ⟨[.bytes #[] t, .str (Str.ofString "latin-1") t1], []⟩) (fun _ R s => ∀ t' k, R (.ok (.ret (.str ⟨#[]⟩ t'))) { s with toks := k }) := by
      refine .of_wp fun prog w A R s h => ?_
      rw [latin_empty]
      refine wpAny_bind (wpAny_rule ?_)
      exact wpAny_bind (wpAny_mkStr (wpAny_pure ⟨_, rfl, h _ _⟩) (by decide))
    exact call_meets FB.slot_bytes_decode (typeIs_bytes _ _ _) FB.entry_bytes_decode (latin_args _ _) M h
  | cons c cs => exact call_meets FB.slot_bytes_decode (typeIs_bytes _ _ _) FB.entry_bytes_decode (latin_args _ _) (latin_meets (by rw [sizeLine_eq]; omega)) h
end
section
variable {prog : Program} {w : World} {A : Around} {E : Value → Shared → Prop} {s : Shared} {K : Frag} {C x p fr : Addr} {Gt Gb : Heap} {oct : Array UInt8} {mg mb : Str → Option Value} {fa : Nat → Addr} {l : List Env}
theorem string1_spec {Q : Value → Shared → Prop} {k : Nat} {t : Tok} (kf : Kf K C Gt) (T : Tops mg mb fa Gt) (hT : Gt.StaysIn Gb) (S : Stm K C Gb x p fr oct) (hR : Rm A 6) (hfr : A.frames = some l) (hl : s.heap.FunFrames Gb l) (hb : Gb.StaysIn s.heap) (hp : (Sh.list [.int k t]).At s.heap p) (hpG : Gb.get? p = none) (hk : k ≤ oct.size) (ho : oct.size ≤ 1000000)
    (hQ : ∀ c r h' tk v u, oct.toList.drop k = c :: r → c.toNat ≤ r.length → (∀ b o, b ≠ p → s.heap.get? b = some o → h'.get? b = some o) → (Sh.list [.int (k + 1 + c.toNat : Nat) u]).At h' p → Q (.str ⟨((r.take c.toNat).map (·.toNat)).toArray⟩ v) { s with heap := h', toks := tk })
    (hE0 : ∀ e h' tk v u, oct.toList.drop k = [] → Err Gb l .none (.type "ValueError") [.str msg1 v] [(p, .list [.int k u])] s.heap e h' → E (.ref e) { s with heap := h', toks := tk })
    (hE1 : ∀ c r e h' tk v u, oct.toList.drop k = c :: r → r.length < c.toNat → Err Gb l .none (.type "ValueError") [.str (fmt2s c.toNat r.length) v] [(p, .list [.int (k + 1 + r.length : Nat) u])] s.heap e h' → E (.ref e) { s with heap := h', toks := tk }) :
    wpAny (model prog w) A (call (.ref (fa 2)) [.ref x]) Q E s := by
  refine c_inX 2 (Gb := hideAll s.heap [p]) (I := Fz.nil) (mu := [(p, .list [.int k t])]) (binds := [("f", .ref x)]) T (fun b o q => hide_stays hb hpG b o (hT b o q)) (fun b o q => of_hideAll _ q) (by have := hR.dp; omega) (fun _ _ q => by cases q)
    (fun q hq => by rw [List.mem_singleton.mp hq]; exact ⟨hp, rfl, hideAll_none _ (List.mem_singleton.mpr rfl)⟩) (by simp) (fun _ _ _ _ => rfl) (fun cd h₀ B => ?_) (hloc := locs rfl)
  have hR' := Rm.deeper (n := 5) hR (envX (fnName 2) (fnScope 2) s.heap.objs.size (fa 2) cd [])
  have hfr' := Around.frames_deeper (env := envX (fnName 2) (fnScope 2) s.heap.objs.size (fa 2) cd []) hfr
  generalize A.deeper _ = A' at hR' hfr' ⊢
  have hid := hide_stays hb hpG
  have hGt : Gt.StaysIn (hideAll s.heap [p]) := fun b o q => hid b o (hT b o q)
  with_unfolding_all show wpAny _ _ (execs (_ :: _ :: _ :: _ :: _ :: []) _) _ _ _
  repeat' (walk_at "mm")
  refine n_fn 1 B T ?_
  refine c_fn T (Bd.tops B) ?_
  repeat (walk_at "mm")
  · exact B.tops
  refine uint1_spec kf T hT S (Rm.less (k := 1) hR') hfr' (B.frames' rfl hid hl rfl rfl) (fun b o q => B.base _ _ (hid _ _ q)) (B.mus _ (List.Mem.head _)).1 hpG hk ho ?_ ?_
  rotate_left
  · intro e h' tk v u hd er
    refine out_on hfr' (.inl rfl) (er.from B.kept) fun h₂ er₂ => ?_
    exact hE0 _ _ _ _ _ hd er₂
  intro c r h₁ tk₁ v₁ u₁ hd keep₁ hp₁
  have B₁ := B.upd (pre := []) (post := []) rfl keep₁ hp₁
  clear keep₁ hp₁ B
  have hr : oct.toList.drop (k + 1) = r := by rw [← List.drop_drop, hd]; rfl
  have hlen : k + 1 + r.length = oct.size := by
    have := congrArg List.length hd
    simp only [List.length_drop, Array.length_toList, List.length_cons] at this
    omega
  have hc := c.toNat_lt
  dsimp only [List.nil_append] at B₁ ⊢
  repeat' (walk_at "mm")
  rename_i B₂
  refine gm_read kf S (fun b o q => B₂.base _ _ (hGt _ _ q)) (fun b o q => B₂.base _ _ (hid _ _ q)) ?_
  dsimp only
  refine c_read S (fun b o q => B₂.base _ _ (hid _ _ q)) ?_
  repeat (walk_at "mm")
  · exact fun b o q => B₂.base _ _ (hid _ _ q)
  refine read_spec (n := c.toNat) (k := k + 1) T hT S (Rm.less (k := 3) hR') (fun b o q => B₂.base _ _ (hid _ _ q)) (B₂.mus _ (List.Mem.head _)).1 hpG (by omega) (by omega) ho ?_
  intro h₃ tk₃ v₃ u₃ keep₃ hp₃
  have B₃ := B₂.upd (pre := []) (post := []) rfl keep₃ hp₃
  clear keep₃ hp₃ B₂ B₁
  rw [hr] at B₃ ⊢
  dsimp only [List.nil_append] at B₃ ⊢
  repeat' (walk_at "mm")
  · rename_i hc'
    rename Bd _ _ _ _ _ _ _ => B₄
    have hle : c.toNat ≤ r.length := by
      simp only [List.size_toArray, List.length_take] at hc'
      omega
    refine KBd.method ?_
    repeat' (walk_at "mm")
    refine b_latin (by simp only [List.length_take]; omega) fun t' k' => ?_
    dsimp only
    refine hQ _ _ _ _ _ _ hd hle (fun b o n q => B₄.base _ _ (hide_get q n)) (by
      have := (B₄.mus _ (List.Mem.head _)).1
      rw [List.length_take, Nat.min_eq_left hle] at this
      exact this)
  · rename_i hc'
    rename Bd _ _ _ _ _ _ _ => B₄
    have hle : r.length < c.toNat := by
      simp only [List.size_toArray, List.length_take] at hc'
      omega
    refine Raise_madeB F.excCall_ValueError F.excRaise_ValueError hR'.hd ?_
    repeat' (walk_at "mm")
    refine m_fmts B₄ (by omega) (by omega) (by omega) (by simp only [List.size_toArray, List.length_take]; omega) fun t' k' h₅ B₅ => ?_
    dsimp only
    have hsz : (r.take c.toNat).toArray.size = r.length := by simp only [List.size_toArray, List.length_take]; omega
    have hsz' : (r.take c.toNat).length = r.length := by simp only [List.length_take]; omega
    rw [hsz]
    rw [hsz'] at B₅
    repeat' (walk_at "mm")
    rename_i M
    refine out_made (l := l) hfr' hl (by assumption) hid M.of fun h₂ er => ?_
    exact hE1 _ _ _ _ _ _ _ hd hle er
end
section
variable {prog : Program} {w : World} {A : Around} {E : Value → Shared → Prop} {s : Shared} {K : Frag} {C x p fr : Addr} {Gt Gb : Heap} {oct : Array UInt8} {mg mb : Str → Option Value} {fa : Nat → Addr} {l : List Env}
theorem bytes1_spec {Q : Value → Shared → Prop} {k : Nat} {t : Tok} (kf : Kf K C Gt) (T : Tops mg mb fa Gt) (hT : Gt.StaysIn Gb) (S : Stm K C Gb x p fr oct) (hR : Rm A 6) (hfr : A.frames = some l) (hl : s.heap.FunFrames Gb l) (hb : Gb.StaysIn s.heap) (hp : (Sh.list [.int k t]).At s.heap p) (hpG : Gb.get? p = none) (hk : k ≤ oct.size) (ho : oct.size ≤ 1000000)
    (hQ : ∀ c r h' tk v u, oct.toList.drop k = c :: r → c.toNat ≤ r.length → (∀ b o, b ≠ p → s.heap.get? b = some o → h'.get? b = some o) → (Sh.list [.int (k + 1 + c.toNat : Nat) u]).At h' p → Q (.bytes (r.take c.toNat).toArray v) { s with heap := h', toks := tk })
    (hE0 : ∀ e h' tk v u, oct.toList.drop k = [] → Err Gb l .none (.type "ValueError") [.str msg1 v] [(p, .list [.int k u])] s.heap e h' → E (.ref e) { s with heap := h', toks := tk })
    (hE1 : ∀ c r e h' tk v u, oct.toList.drop k = c :: r → r.length < c.toNat → Err Gb l .none (.type "ValueError") [.str (fmt2b c.toNat r.length) v] [(p, .list [.int (k + 1 + r.length : Nat) u])] s.heap e h' → E (.ref e) { s with heap := h', toks := tk }) :
    wpAny (model prog w) A (call (.ref (fa 3)) [.ref x]) Q E s := by
  refine c_inX 3 (Gb := hideAll s.heap [p]) (I := Fz.nil) (mu := [(p, .list [.int k t])]) (binds := [("f", .ref x)]) T (fun b o q => hide_stays hb hpG b o (hT b o q)) (fun b o q => of_hideAll _ q) (by have := hR.dp; omega) (fun _ _ q => by cases q)
    (fun q hq => by rw [List.mem_singleton.mp hq]; exact ⟨hp, rfl, hideAll_none _ (List.mem_singleton.mpr rfl)⟩) (by simp) (fun _ _ _ _ => rfl) (fun cd h₀ B => ?_) (hloc := locs rfl)
  have hR' := Rm.deeper (n := 5) hR (envX (fnName 3) (fnScope 3) s.heap.objs.size (fa 3) cd [])
  have hfr' := Around.frames_deeper (env := envX (fnName 3) (fnScope 3) s.heap.objs.size (fa 3) cd []) hfr
  generalize A.deeper _ = A' at hR' hfr' ⊢
  have hid := hide_stays hb hpG
  have hGt : Gt.StaysIn (hideAll s.heap [p]) := fun b o q => hid b o (hT b o q)
  with_unfolding_all show wpAny _ _ (execs (_ :: _ :: _ :: _ :: _ :: []) _) _ _ _
  repeat' (walk_at "mm")
  refine n_fn 1 B T ?_
  refine c_fn T (Bd.tops B) ?_
  repeat (walk_at "mm")
  · exact B.tops
  refine uint1_spec kf T hT S (Rm.less (k := 1) hR') hfr' (B.frames' rfl hid hl rfl rfl) (fun b o q => B.base _ _ (hid _ _ q)) (B.mus _ (List.Mem.head _)).1 hpG hk ho ?_ ?_
  rotate_left
  · intro e h' tk v u hd er
    refine out_on hfr' (.inl rfl) (er.from B.kept) fun h₂ er₂ => ?_
    exact hE0 _ _ _ _ _ hd er₂
  intro c r h₁ tk₁ v₁ u₁ hd keep₁ hp₁
  have B₁ := B.upd (pre := []) (post := []) rfl keep₁ hp₁
  clear keep₁ hp₁ B
  have hr : oct.toList.drop (k + 1) = r := by rw [← List.drop_drop, hd]; rfl
  have hlen : k + 1 + r.length = oct.size := by
    have := congrArg List.length hd
    simp only [List.length_drop, Array.length_toList, List.length_cons] at this
    omega
  have hc := c.toNat_lt
  dsimp only [List.nil_append] at B₁ ⊢
  repeat' (walk_at "mm")
  rename_i B₂
  refine gm_read kf S (fun b o q => B₂.base _ _ (hGt _ _ q)) (fun b o q => B₂.base _ _ (hid _ _ q)) ?_
  dsimp only
  refine c_read S (fun b o q => B₂.base _ _ (hid _ _ q)) ?_
  repeat (walk_at "mm")
  · exact fun b o q => B₂.base _ _ (hid _ _ q)
  refine read_spec (n := c.toNat) (k := k + 1) T hT S (Rm.less (k := 3) hR') (fun b o q => B₂.base _ _ (hid _ _ q)) (B₂.mus _ (List.Mem.head _)).1 hpG (by omega) (by omega) ho ?_
  intro h₃ tk₃ v₃ u₃ keep₃ hp₃
  have B₃ := B₂.upd (pre := []) (post := []) rfl keep₃ hp₃
  clear keep₃ hp₃ B₂ B₁
  rw [hr] at B₃ ⊢
  dsimp only [List.nil_append] at B₃ ⊢
  repeat' (walk_at "mm")
  · rename_i hc'
    rename Bd _ _ _ _ _ _ _ => B₄
    have hle : c.toNat ≤ r.length := by
      simp only [List.size_toArray, List.length_take] at hc'
      omega
    refine hQ _ _ _ _ _ _ hd hle (fun b o n q => B₄.base _ _ (hide_get q n)) (by
      have := (B₄.mus _ (List.Mem.head _)).1
      rw [List.length_take, Nat.min_eq_left hle] at this
      exact this)
  · rename_i hc'
    rename Bd _ _ _ _ _ _ _ => B₄
    have hle : r.length < c.toNat := by
      simp only [List.size_toArray, List.length_take] at hc'
      omega
    refine Raise_madeB F.excCall_ValueError F.excRaise_ValueError hR'.hd ?_
    repeat' (walk_at "mm")
    refine m_fmtb B₄ (by omega) (by omega) (by omega) (by simp only [List.size_toArray, List.length_take]; omega) fun t' k' h₅ B₅ => ?_
    dsimp only
    have hsz : (r.take c.toNat).toArray.size = r.length := by simp only [List.size_toArray, List.length_take]; omega
    have hsz' : (r.take c.toNat).length = r.length := by simp only [List.length_take]; omega
    rw [hsz]
    rw [hsz'] at B₅
    repeat' (walk_at "mm")
    rename_i M
    refine out_made (l := l) hfr' hl (by assumption) hid M.of fun h₂ er => ?_
    exact hE1 _ _ _ _ _ _ _ hd hle er
end
/-- the claim's own caller lies below -/
noncomputable def Called (Γ : Ctx) : Prop := (Γ.below.map (·.1)).any Code.isCaller = true
noncomputable def wpC {α : Type} (M : Model) (A : Around) (t : Sem α) (Q : α → Shared → Prop) (E : Value → Shared → Prop) (s : Shared) : Prop :=
  ∀ Γ p, Γ.In A → Called Γ → wp M Γ t (fun a _ s' => Q a s') (fun e _ s' => E e s') p s
noncomputable def codeC (M : Model) (A : Around) (c : Code) (R : Result → Shared → Prop) (s : Shared) : Prop :=
  ∀ Γ p, Γ.code = c → Γ.Below A → Called Γ → wpCode M Γ R p s
section
variable {α β : Type} {M : Model} {A : Around} {E : Value → Shared → Prop} {s : Shared} {env : Env}
theorem wpC_any {t : Sem α} {Q : α → Shared → Prop} (h : wpAny M A t Q E s) : wpC M A t Q E s := fun Γ p i _ => h Γ p i
theorem codeC_any {c : Code} {R : Result → Shared → Prop} (h : codeAny M A c R s) : codeC M A c R s := fun Γ p e b _ => h Γ p e b
theorem wpC_mono {t : Sem α} {Q Q' : α → Shared → Prop} {E' : Value → Shared → Prop} (h : wpC M A t Q E s) (hQ : ∀ a s, Q a s → Q' a s) (hE : ∀ e s, E e s → E' e s) : wpC M A t Q' E' s :=
  fun Γ p i c => Sem.wp_mono M Γ t (fun a _ s => hQ a s) (fun e _ s => hE e s) p s (h Γ p i c)
theorem wpC_bind {m : Sem α} {f : α → Sem β} {Q : β → Shared → Prop} (h : wpC M A m (fun a s' => wpC M A (f a) Q E s') E s) : wpC M A (m >>= f) Q E s := fun Γ p i c => by
  rw [Sem.wp_bind']
  exact Sem.wp_mono M Γ m (fun a p' s' h' => h' Γ p' i c) (fun _ _ _ h' => h') p s (h Γ p i c)
/-- first something that any caller may do -/
theorem wpC_then {m : Sem α} {f : α → Sem β} {Q : β → Shared → Prop} (h : wpAny M A m (fun a s' => wpC M A (f a) Q E s') E s) : wpC M A (m >>= f) Q E s := wpC_bind (wpC_any h)
/-- then -/
theorem wpC_first {m : Sem α} {f : α → Sem β} {Q : β → Shared → Prop} (h : wpC M A m (fun a s' => wpAny M A (f a) Q E s') E s) : wpC M A (m >>= f) Q E s := wpC_bind (wpC_mono h (fun _ _ q => wpC_any q) fun _ _ q => q)
theorem wpC_pure {a : α} {Q : α → Shared → Prop} (h : Q a s) : wpC M A (pure a) Q E s := wpC_any (wpAny_pure h)
theorem wpC_onRaise {m : Sem α} {k : Value → Sem Unit} {Q : α → Shared → Prop} (h : wpC M A m Q (fun e s' => wpAny M A (k e) (fun _ s'' => E e s'') E s') s) : wpC M A (m.onRaise k) Q E s := fun Γ p i c => by
  rw [Sem.wp_onRaise]
  exact Sem.wp_mono M Γ m (fun _ _ _ h' => h') (fun e p' s' h' => h' Γ p' i) p s (h Γ p i c)
theorem wpC_attempt {m : Sem α} {Q : Except Value α → Shared → Prop} (h : wpC M A m (fun a => Q (.ok a)) (fun e => Q (.error e)) s) : wpC M A m.attempt Q E s := fun Γ p i c => by
  rw [Sem.wp_attempt]; exact h Γ p i c
theorem wpC_holding {vs : List Value} {m : Sem α} {Q : α → Shared → Prop} (h : wpC M A m Q E s) : wpC M A (holding vs m) Q E s := fun Γ p i c => by
  rw [Sem.wp_holding]; exact h Γ p i c
theorem called_enter {Γ : Ctx} (c : Called Γ) (code : Code) (hd : Option Value) (p : Pos) : Called (Γ.enter code hd p) := by
  show ((((Γ.code, p) :: Γ.below).map (·.1)).any Code.isCaller) = true
  rw [List.map_cons, List.any_cons, show (Γ.below.map (·.1)).any Code.isCaller = true from c, Bool.or_true]
theorem wpC_run {c : Code} {h : Option Value} {Q : Flow → Shared → Prop} (hc : codeC M (A.mark h) c (fun r s' => match r with | .ok f => Q f s' | .error e => E e s') s) (hnb : h ≠ some byPass := by intro x; cases x) : wpC M A (run c h) Q E s :=
  fun Γ p i cl => by rw [Sem.wp_run]; exact hc _ p rfl (i.enter c h p hnb) (called_enter cl c h p)
theorem wpC_runValue {c : Code} {Q : Value → Shared → Prop} (hc : codeC M A c (fun r s' => match r with | .ok (.ret v) => Q v s' | .ok _ => False | .error e => E e s') s) : wpC M A (runValue c) Q E s :=
  fun Γ p i cl => by rw [Sem.wp_runValue]; exact hc _ p rfl (i.enter c none p (by intro x; cases x)) (called_enter cl c none p)
theorem wpC_call {f : Value} {pos : List Value} {kw : List (Str × Value)} {Q : Value → Shared → Prop} (hc : codeC M A (.call f ⟨pos, kw⟩) (fun r s' => match r with | .ok (.ret v) => Q v s' | .ok _ => False | .error e => E e s') s) :
    wpC M A (call f pos kw) Q E s := wpC_runValue hc
theorem codeC_tree {c : Code} {R : Result → Shared → Prop} (h : wpC M (A.under c) (M.den c) (fun fin s' => match fin with | .done f => R (.ok f) s' | .again c' => c'.quiet = true ∧ codeC M A c' R s') (fun e s' => R (.error e) s') s) : codeC M A c R s := fun Γ p hc hΓ cl => by
  rw [wpCode_iff_wp, hc]
  refine Sem.wp_mono M Γ _ (fun fin p' s' h' => ?_) (fun _ _ _ h' => h') p s (h Γ p (hc ▸ hΓ.in) cl)
  cases fin with
  | done f => exact h'
  | again c' => exact ⟨h'.1, h'.2 (Γ.goto c') p' rfl (hΓ.goto c') cl⟩
theorem codeC_loop {c : Code} {R : Result → Shared → Prop} (hq : c.quiet = true) (II : Nat → Shared → Prop)
    (turn : ∀ n s, II n s → wpC M (A.under c) (M.den c) (fun fin s' => match fin with | .done f => R (.ok f) s' | .again c' => c' = c ∧ ∃ m, m < n ∧ II m s') (fun e s' => R (.error e) s') s)
    (n : Nat) (h : II n s) : codeC M A c R s := by
  induction n using Nat.strongRecOn generalizing s with
  | ind n ih =>
    refine codeC_tree (wpC_mono (turn n s h) (fun fin s' hf => ?_) fun _ _ h' => h')
    cases fin with
    | done f => exact hf
    | again c' => obtain ⟨rfl, m, hm, hI⟩ := hf; exact ⟨hq, ih m hm hI⟩
theorem execsC {st : Stmt} {rest : List Stmt} {Q : Flow → Shared → Prop} (h : wpC M A (exec st env) (fun f s' => match f with | .next => wpC M A (execs rest env) Q E s' | f => Q f s') E s) : wpC M A (execs (st :: rest) env) Q E s := by
  rw [execs_cons]
  refine wpC_bind (wpC_mono h (fun f s' h' => ?_) fun _ _ q => q)
  cases f <;> first | exact h' | exact wpC_pure h'
theorem execsA {st : Stmt} {rest : List Stmt} {Q : Flow → Shared → Prop} (h : wpAny M A (exec st env) (fun f s' => match f with | .next => wpC M A (execs rest env) Q E s' | f => Q f s') E s) : wpC M A (execs (st :: rest) env) Q E s := execsC (wpC_any h)
theorem assignC {x : Str} {pos' pos : Pos} {value : Expr} {Q : Flow → Shared → Prop} (h : wpC M A (eval value env) (fun v s₁ => wpAny M A (storeName env x v) (fun _ => Q .next) E s₁) E s)
    (hs : swapsWith value (some (.Name x pos')) pos.line env = pure false := by rfl) : wpC M A (exec (.Assign [.Name x pos'] value pos) env) Q E s := by
  rw [exec_Assign_Name env x pos' value pos hs]
  refine wpC_then (wpAny_standAt (wpC_bind (wpC_mono h (fun v s₁ h₁ => ?_) fun _ _ q => q)))
  refine wpC_then (wpAny_standAt (wpC_then (wpAny_bindName (wpAny_mono h₁ (fun _ _ q => wpC_pure q) fun _ _ q => q))))
theorem returnC {e : Expr} {pos : Pos} {Q : Flow → Shared → Prop} (h : wpC M A (eval e env) (fun v => Q (.ret v)) E s) : wpC M A (exec (.Return (some e) pos) env) Q E s := by
  rw [exec_Return_some]
  exact wpC_then (wpAny_standAt (wpC_bind (wpC_mono h (fun v s₁ h₁ => wpC_pure h₁) fun _ _ q => q)))
theorem ifC {test : Expr} {body orelse : List Stmt} {pos : Pos} {Q : Flow → Shared → Prop} (h : wpC M A (isTrue test env (eval test env)) (fun b s₂ => if b then wpC M A (execs body env) Q E s₂ else wpC M A (execs orelse env) Q E s₂) E s) :
    wpC M A (exec (.If test body orelse pos) env) Q E s := by
  rw [exec_If]
  refine wpC_then (wpAny_standAt (wpC_bind (wpC_mono h (fun b s₂ h₂ => ?_) fun _ _ q => q)))
  cases b <;> exact h₂
theorem compareC {l r : Expr} {op : CmpOp} {pos : Pos} {Q : Value → Shared → Prop} (h : wpC M A (eval l env) (fun a s₁ => wpAny M A (eval r env) (fun b s₂ => wpAny M A (compareOp op a b) Q E s₂) E s₁) E s) (hm : behindInMarks op r = false := by with_unfolding_all rfl) :
    wpC M A (eval (.Compare l [op] [r] pos) env) Q E s := by
  simp only [eval_Compare1, markedBehindIn_of_false hm]
  exact wpC_bind (wpC_mono h (fun a s₁ h₁ => wpC_any (wpAny_bind (wpAny_holding (wpAny_mono h₁ (fun b s₂ h₂ => wpAny_bind (wpAny_standAt (wpAny_operateT h₂))) fun _ _ q => q)))) fun _ _ q => q)
theorem testC {l r : Expr} {op : CmpOp} {pos : Pos} {whole : Sem Value} {Q : Bool → Shared → Prop} (h : wpC M A (eval l env) (fun a s₁ => wpAny M A (eval r env) (fun b s₂ => wpAny M A (compareOp op a b) (fun c s₃ => wpAny M A (truthy c) Q E s₃) E s₂) E s₁) E s)
    (hm : behindInMarks op r = false := by with_unfolding_all rfl) : wpC M A (isTrue (.Compare l [op] [r] pos) env whole) Q E s := by
  simp only [isTrue_Compare1, markedBehindIn_of_false hm]
  exact wpC_bind (wpC_mono h (fun a s₁ h₁ => wpC_any (wpAny_bind (wpAny_holding (wpAny_mono h₁ (fun b s₂ h₂ => wpAny_bind (wpAny_standAt (wpAny_bind (wpAny_operateT (wpAny_mono h₂ (fun c s₃ h₃ => wpAny_holding h₃) fun _ _ q => q))))) fun _ _ q => q)))) fun _ _ q => q)
theorem calledC {x : Str} {np pos : Pos} {args : List Expr} {Q : Value → Shared → Prop} (h : wpAny M A (eval (.Name x np) env) (fun f s₁ => wpC M A (callWith pos f [] (backTo pos (starEach args env)) []) Q E s₁) E s) :
    wpC M A (eval (.Call (.Name x np) args [] pos) env) Q E s := by
  rw [arm_eval_Call_Name']
  exact wpC_then h
theorem callDefC {pos : Pos} {f : Addr} {o : Obj} {fd : FuncData} {e : Expr} {rest : List Expr} {Q : Value → Shared → Prop} (hdat : o.data = .func fd)
    (h : wpAny M A (spliced (backTo pos (starEach (e :: rest) env))) (fun vs s₁ => s₁.heap.get? f = some o ∧ wpC M A (call (.ref f) vs) Q E s₁) E s)
    (he : starEach (e :: rest) env = (false, eval e env) :: starEach rest env := by rfl) :
    wpC M A (callWith pos (.ref f) [] (backTo pos (starEach (e :: rest) env)) []) Q E s := by
  rw [he] at h ⊢
  unfold callWith
  refine wpC_then (wpAny_holding (evalArgs_plain (wpAny_mono h (fun vs s₁ h₁ => wpC_then (wpAny_standAt ?_)) fun _ _ q => q)))
  have tail : ∀ {t : Sem Value}, wpC M A t Q E s₁ → wpC M A (t >>= fun r => holding [r] point >>= fun _ => pure r) Q E s₁ :=
    fun ht => wpC_bind (wpC_mono ht (fun r s₂ hr => wpC_any (wpAny_bind (wpAny_holding (wpAny_point (wpAny_pure hr))))) fun _ _ q => q)
  have kept : ∀ {m : Value}, wpC M A (callMarked m (.ref f) ([] ++ vs) []) Q E s₁ := fun {m} => by
    unfold callMarked
    exact fun Γ p i c => by rw [Sem.wp_keep]; exact h₁.2 Γ p i c
  have road : ∀ {g : Keeper → Sem Value}, wpC M A (g .frame) Q E s₁ → wpC M A (keeperOf (.ref f) >>= g) Q E s₁ := fun {g} hg => by
    refine wpC_then ?_
    unfold keeperOf
    refine wpAny_bind (wpAny_load h₁.1 ?_)
    rw [hdat]
    exact wpAny_pure hg
  refine road ?_
  generalize ((List.any _ _ || List.any _ _) : Bool) = st
  cases st
  · dsimp only
    split
    · exact tail h₁.2
    · exact tail kept
  · exact tail kept
end
theorem int_road (v : Value) : ∃ k, Builtin.«type.__call__» ⟨[.type "int", v], []⟩ = (holding [.builtin "int.__new__"] (call (.builtin "int.__new__") [.type "int", v]) >>= k) := by
  apply Exists.intro
  have ft := F.called_int
  unfold Builtin.«type.__call__»
  dsimp only
  simp only [ft.notType, F.mro_int, ft.made, ft.canCreate, F.typeCall_int_1, Bool.false_eq_true, if_false, pure_bind, List.isEmpty_cons]
  rfl
theorem int_new1 (x : Str) (u : Tok) : ∃ k, Builtin.«int.__new__» ⟨[.type "int", .str x u], []⟩ = ((int_private% "intFromObject") (.str x u) >>= k) := by
  apply Exists.intro
  unfold Builtin.«int.__new__»
  have f1 := F.conv_sub_int
  have f2 := F.madeHere_int
  dsimp only
  simp only [f1, f2, pure_bind]
  rfl
theorem int_obj (x : Str) (u : Tok) : (int_private% "intFromObject") (.str x u) = (int_private% "intFromText") (.str x u) (numTextOf x) 10 := by
  have f6 : typeOf (.str x u) = pure (.type "str") := rfl
  have f3 := KIN.str_int
  have f4 := KIN.str_idx
  have f5 := KIN.str_trunc
  have g3 : specialOf (.str x u) "__int__" = pure none := by unfold specialOf; rw [f6, pure_bind, f3]
  have g4 : specialOf (.str x u) "__index__" = pure none := by unfold specialOf; rw [f6, pure_bind, f4]
  have g5 : specialOf (.str x u) "__trunc__" = pure none := by unfold specialOf; rw [f6, pure_bind, f5]
  have g1 : callSpecial? (.str x u) "__int__" = pure none := by
    unfold callSpecial?
    rw [g3, pure_bind]
  apply Eq.trans (b := callSpecial? (.str x u) "__int__" >>= _)
  · rfl
  rw [g1]
  simp only [g4, g5, pure_bind]
  rfl
theorem int_text {x : Str} {u : Tok} (hs : (numSeenOf x).length ≤ 640) (hr : (int_private% "readNumeral") 0 10 (numSeenOf x) = int_private% "Numeral.invalid") :
    (int_private% "intFromText") (.str x u) (numTextOf x) 10 = (rule "int.__new__.invalid-literal" >>= fun _ => pyRepr (.str x u) >>= fun shown =>
      mkStr ((Str.ofString (toString "invalid literal for int() with base " ++ toString 10 ++ toString ": ") ++ ⟨shown.cps.extract 0 200⟩ : Str)) >>= fun m => newExc (.type "ValueError") [m] >>= fun refusal => markTheRefusal ["int.__new__"] refusal >>= fun _ => raiseNew refusal) := by
  apply Eq.trans (b := if (numSeenOf x).length ≤ 640 then _ else _)
  · rfl
  rw [if_pos hs, pure_bind]
  dsimp only
  rw [hr]
  rfl
theorem numeral_bad {x : Str} (hl : x.length ≤ 640) (hn : PySem.intText? x = none) (ha : ((numSeenOf x).length == (numTextOf x).length) = true) : (numSeenOf x).length ≤ 640 ∧ (int_private% "readNumeral") 0 10 (numSeenOf x) = int_private% "Numeral.invalid" := by
  have hs := Nat.le_trans (seen_length x) hl
  refine ⟨hs, ?_⟩
  rcases read0 x hs with ⟨n, h1, _⟩ | ⟨_, h | ⟨i, _, h⟩⟩
  · rw [hn] at h1; cases h1
  · exact h
  · exact absurd ha h
section
variable {prog : Program} {w : World} {A : Around} {E : Value → Shared → Prop} {s : Shared}
/-- no mark is left under the claim's caller -/
theorem no_mark {own : List String} {v : Value} {Q : Unit → Shared → Prop} {M : Model} (h : Q () s) : wpC M A (markTheRefusal own v) Q E s := fun Γ p i c => by
  unfold markTheRefusal
  show wp M Γ (stack >>= _) _ _ p s
  rw [Sem.wp_bind']
  show wp M Γ (if pythonCodeMadeTheCall own (((Γ.code, p) :: Γ.below).map (·.1)) = true then _ else _) _ _ p s
  have : pythonCodeMadeTheCall own (((Γ.code, p) :: Γ.below).map (·.1)) = false := by
    have c' : (Γ.below.map (·.1)).any Code.isCaller = true := c
    show ((!((((Γ.code, p) :: Γ.below).map (·.1)).any Code.isCaller) && _) && _) = false
    rw [List.map_cons, List.any_cons, c', Bool.or_true]
    rfl
  rw [if_neg (by rw [this]; decide)]
  exact h
theorem builtinC {id : String} {args : Args} {b : Builtin} {R : Result → Shared → Prop} (hb : entryFor table id = some b)
    (h : wpC (model prog w) (A.under (.builtin id args)) (b args) (fun fin s' => match fin with | .done f => R (.ok f) s' | .again c' => c'.quiet = true ∧ codeC (model prog w) A c' R s') (fun e s' => R (.error e) s') s) :
    codeC (model prog w) A (.builtin id args) R s := by
  refine codeC_tree ?_
  show wpC _ _ (match entryFor table id with | some b => b args | none => unsupported ((withoutEnding? id "#data").getD id)) _ _ s
  rw [hb]; exact h
theorem callTypeC {T : String} {args : Args} {R : Result → Shared → Prop} (h : codeC (model prog w) A (.builtin "type.__call__" { args with pos := .type T :: args.pos }) R s) : codeC (model prog w) A (.call (.type T) args) R s := by
  refine codeC_tree ?_
  show wpC _ _ (callAny (.type T) args) _ _ _
  exact wpC_pure ⟨Code.quiet_builtin _ (by decide +kernel), h⟩
theorem callBuiltinC {id : String} {args : Args} {R : Result → Shared → Prop} (hq : (Code.builtin id args).quiet = true) (hc : checkBuiltinCall id args = pure ()) (h : codeC (model prog w) A (.builtin id args) R s) : codeC (model prog w) A (.call (.builtin id) args) R s := by
  refine codeC_tree ?_
  show wpC _ _ (checkBuiltinCall id args >>= fun _ => again (.builtin id args)) _ _ s
  rw [hc]
  exact wpC_then (wpAny_pure (wpC_pure ⟨hq, h⟩))
theorem int_bad {x : Str} {t : Tok} {Q : Value → Shared → Prop} (hh : A.handled = none) (hl : x.length ≤ 40) (hc : ∀ c ∈ x.cps.toList, c < 16 ^ 8) (hn : PySem.intText? x = none) (ha : ((numSeenOf x).length == (numTextOf x).length) = true)
    (h : ∀ h' e m tk k, Heap.MadeExc s.heap h' e "ValueError" [.str m tk] → E (.ref e) { s with heap := h', toks := k }) : wpC (model prog w) A (call (.type "int") [.str x t]) Q E s := by
  obtain ⟨hs, hr⟩ := numeral_bad (Nat.le_trans hl (by decide)) hn ha
  refine wpC_call (callTypeC (builtinC F.entry_type_call ?_))
  obtain ⟨k, e⟩ := int_road (.str x t)
  show wpC _ _ (Builtin.«type.__call__» ⟨[.type "int", .str x t], []⟩) _ _ _
  rw [e]
  refine wpC_bind (wpC_holding (wpC_call (callBuiltinC (Code.quiet_builtin _ (by decide +kernel)) (F.newCall_int_1 _) (builtinC F.entry_int_new ?_))))
  obtain ⟨k2, e2⟩ := int_new1 x t
  rw [e2, int_obj, int_text hs hr]
  have hh1 : ((A.under (.builtin "type.__call__" ⟨[.type "int", .str x t], []⟩)).under (.builtin "int.__new__" ⟨[.type "int", .str x t], []⟩)).handled = none := hh
  have hz := StrLaws.reprText_len x hc
  refine wpC_bind (wpC_then (wpAny_rule (wpC_then (wpAny_pyRepr_str ?_ (by rw [sizeLine_eq]; omega)))))
  refine wpC_then (wpAny_mkStr ?_ ?_)
  · refine wpC_then (wpAny_newExc_plain plainExc_ValueError fun h' e' M => ?_)
    exact wpC_bind (no_mark (wpC_any (wpAny_raiseNew_none hh1 (h _ _ _ _ _ M))))
  · rw [Str.length_append, sizeLine_eq]
    have : (⟨(reprText x).cps.extract 0 200⟩ : Str).length ≤ 200 := by
      show ((reprText x).cps.extract 0 200).size ≤ 200
      rw [Array.size_extract]; omega
    have h2 : (Str.ofString (toString "invalid literal for int() with base " ++ toString 10 ++ toString ": ")).length ≤ 100 := by decide +kernel
    omega
end
section
variable {prog : Program} {w : World} {A : Around} {E : Value → Shared → Prop} {s : Shared} {env : Env} {R : Result → Shared → Prop}
theorem tryC {body orelse : List Stmt} {h₀ : ExceptHandler} {hs : List ExceptHandler} {pos : Pos} {Q : Flow → Shared → Prop}
    (h : wpC (model prog w) A (execs body env) (fun f s₁ => match f with | .next => wpAny (model prog w) A (execs orelse env) Q E s₁ | f => Q f s₁)
      (fun e s₁ => wpAny (model prog w) A (noteFrame e env) (fun _ s₂ => wpAny (model prog w) A (setFlight e none) (fun _ s₃ => wpAny (model prog w) A (handleBy e env (h₀ :: hs)) Q E s₃) E s₂) E s₁) s) :
    wpC (model prog w) A (exec (.Try body (h₀ :: hs) orelse [] pos) env) Q E s := by
  rw [arm_exec_Try]
  refine wpC_then (wpAny_standAt ?_)
  unfold tryStmt
  simp only [List.isEmpty_nil, if_true, List.isEmpty_cons, Bool.false_and, Bool.false_eq_true, if_false]
  refine wpC_bind (wpC_attempt (wpC_mono h (fun f s₁ h₁ => ?_) fun e s₁ h₁ => ?_))
  · cases f <;> first | exact wpC_any h₁ | exact wpC_pure h₁
  · exact wpC_any (wpAny_bind (wpAny_mono h₁ (fun _ _ h₂ => wpAny_bind h₂) fun _ _ q => q))
theorem notedC {α : Type} {m : Sem α} {Q : α → Shared → Prop} {M : Model} (h : wpC M A m Q (notedBy M A env E) s) : wpC M A (m.onRaise fun x => do noteFrame x env; theTreesLotGoes x) Q E s :=
  wpC_onRaise (wpC_mono h (fun _ _ q => q) fun _ _ hx => wpAny_bind (wpAny_mono hx (fun _ _ e => wpAny_theTreesLotGoes e) fun _ _ e => e))
theorem loopC {test : Expr} {body orelse : List Stmt} (II : Nat → Shared → Prop)
    (turn : ∀ n s, II n s → wpAny (model prog w) A (isTrue test env (eval test env)) (fun b s₂ => b = true ∧
      wpC (model prog w) A (execs body env) (fun f s₃ => match f with
            | .next | .cont => ∃ m, m < n ∧ II m s₃
            | .brk => R (.ok .next) s₃
            | .ret v => R (.ok (.ret v)) s₃) (notedBy (model prog w) A env fun e s' => R (.error e) s') s₂)
        (notedBy (model prog w) A env fun e s' => R (.error e) s') s)
    (n : Nat) (h : II n s) : codeC (model prog w) A (.whileLoop test body orelse env) R s := by
  refine codeC_loop rfl II (fun n s hI => ?_) n h
  show wpC _ A ((whileTurn test body orelse env).onRaise (fun x => do noteFrame x env; theTreesLotGoes x)) _ _ s
  refine notedC ?_
  simp only [whileTurn]
  refine wpC_then (wpAny_mono (turn n s hI) (fun b s₂ h₂ => ?_) fun _ _ q => q)
  obtain ⟨rfl, h₂⟩ := h₂
  simp only [if_true]
  refine wpC_bind (wpC_mono h₂ (fun f s₃ h₃ => ?_) fun _ _ q => q)
  cases f with
  | next => exact wpC_pure ⟨rfl, h₃⟩
  | cont => exact wpC_pure ⟨rfl, h₃⟩
  | brk => exact wpC_pure h₃
  | ret v => exact wpC_pure h₃
theorem whileC {test : Expr} {body orelse : List Stmt} {pos : Pos} {Q : Flow → Shared → Prop} {M : Model}
    (h : codeC M A (.whileLoop test body orelse env) (fun r s' => match r with | .ok f => Q f s' | .error e => cameBackBy M A env E e s') s) : wpC M A (exec (.While test body orelse pos) env) Q E s := by
  rw [exec_While]
  refine wpC_then (wpAny_standAt ?_)
  unfold runOwn
  exact wpC_onRaise (wpC_run h)
theorem funcC {body : List Stmt} (h : wpC (model prog w) (A.deeper env) (execs body env) (fun f s' => R (.ok (.ret (match f with | .ret v => v | _ => .none))) s')
      (fun e s' => wpAny (model prog w) (A.deeper env) (leaving env e) (fun _ s'' => R (.error e) s'') (fun e' s'' => R (.error e') s'') s') s) : codeC (model prog w) A (.func body env) R s := by
  refine codeC_tree ?_
  show wpC _ (A.deeper env) (do point; match ← (execs body env).onRaise (leaving env) with | .ret v => ret v | _ => ret .none) _ _ s
  refine wpC_then (wpAny_point (wpC_bind (wpC_onRaise (wpC_mono h (fun f s' h' => ?_) fun _ _ q => q))))
  cases f <;> exact wpC_pure h'
theorem functionC {a : Addr} {args : Args} {o : Obj} {fd : FuncData} {body : List Stmt} (hroom : A.depth < recursionLimit) (ho : s.heap.get? a = some o)
    (hd' : o.data = .func fd) (hco : fd.scope.isCoroutine = false) (hgen : fd.scope.isGenerator = false) (hbody : fd.body = .stmts body) (hcd : s.heap.CodeRec fd.code fd.qualname)
    (h : wpAny (model prog w) A.in1 (bindArgs fd args) (fun binds s₁ =>
      wpAny (model prog w) A.in1 (newFunctionEnv fd.scope fd.globals fd.closure binds (fd.qualname ++ ".<locals>.") (some a) fd.code none fd.builtins)
        (fun env s₂ => s₂.heap.NoLimit ∧ codeC (model prog w) A (.func body env) R s₂) (fun e s' => R (.error e) s') s₁) (fun e s' => R (.error e) s') s) :
    codeC (model prog w) A (.call (.ref a) args) R s := by
  refine codeC_tree ?_
  show wpC _ A.in1 (callAny (.ref a) args) _ _ s
  simp only [callAny]
  refine wpC_then (wpAny_load ho ?_)
  obtain ⟨c, oc, vs, tq, hc, hoc, hdc, hq⟩ := hcd
  simp only [hd', callFunction, hco, hgen, hbody, hc]
  rw [hc] at h
  refine wpC_then (m := field (.ref c) 1) (wpAny_field hoc hdc hq (wpC_then (wpAny_pure ?_)))
  exact wpC_then (wpAny_mono h (fun binds s₁ h₁ => wpC_then (wpAny_mono h₁ (fun env s₂ h₂ => wpC_then (wpAny_enterFrame h₂.1 hroom (wpC_pure ⟨rfl, h₂.2⟩))) fun _ _ q => q)) fun _ _ q => q)
theorem defC {a : Addr} {o : Obj} {fd : FuncData} {body : List Stmt} {args : Args} {binds : List (Str × Value)}
    (hroom : A.depth < recursionLimit) (ho : s.heap.get? a = some o) (hdata : o.data = .func fd) (hlim : s.heap.NoLimit) (hcd : s.heap.CodeRec fd.code fd.qualname)
    (hbody : fd.body = .stmts body) (hbind : BindsTo s fd args binds) (hcell : ∀ x ∈ fd.scope.names, x.2 ≠ .cell) (hloc : ∀ x ∈ binds, fd.scope.names.lookup x.1 = some .local)
    (h : ∀ h₀, h₀.Ns s.heap.objs.size (fun x => binds.reverse.lookup x) → (∀ b o, s.heap.get? b = some o → h₀.get? b = some o) →
      wpC (model prog w) (A.deeper (callEnv fd s.heap.objs.size a)) (execs body (callEnv fd s.heap.objs.size a)) (fun f s' => R (.ok (.ret (match f with | .ret v => v | _ => .none))) s')
        (fun e s' => wpAny (model prog w) (A.deeper (callEnv fd s.heap.objs.size a)) (leaving (callEnv fd s.heap.objs.size a) e) (fun _ s'' => R (.error e) s'') (fun e' s'' => R (.error e') s'') s')
        { s with heap := h₀, toks := s.toks + binds.length })
    (hco : fd.scope.isCoroutine = false := by rfl) (hgen : fd.scope.isGenerator = false := by rfl) (hk : fd.scope.kind = .function := by rfl) :
    codeC (model prog w) A (.call (.ref a) args) R s := by
  refine functionC hroom ho hdata hco hgen hbody hcd (hbind _ _ _ _ ?_)
  refine wpAny_newFunctionEnv hcell hloc (fun h₀ hns₀ hsb₀ => ⟨hlim.fresh _ hsb₀, funcC (h h₀ hns₀ fun b o e => ?_)⟩) hk
  exact hsb₀.extBut b o (Nat.ne_of_lt (Heap.lt_size e)) (Heap.get?_push_of_some _ e)
end
section
variable {prog : Program} {w : World} {A : Around} {E : Value → Shared → Prop} {s : Shared} {mg mb : Str → Option Value} {fa : Nat → Addr} {Gb Gt G : Heap} {I : Fz} {l : List Env} {mu : List (Addr × Sh)} {env : Env} {pos : Pos}
theorem callTypeWithC {T : String} {e : Expr} {rest : List Expr} {Q : Value → Shared → Prop} {M : Model}
    (h : wpAny M A (spliced (backTo pos (starEach (e :: rest) env))) (fun vs s₁ => wpC M A (call (.type T) vs) Q E s₁) E s)
    (he : starEach (e :: rest) env = (false, eval e env) :: starEach rest env := by rfl) (hplain : (backTo pos (starEach rest env)).any (·.1) = false := by rfl) :
    wpC M A (callWith pos (.type T) [] (backTo pos (starEach (e :: rest) env)) []) Q E s := by
  rw [he] at h ⊢
  unfold callWith
  refine wpC_then (wpAny_holding (evalArgs_plain (wpAny_mono h (fun vs s₁ h₁ => wpC_then (wpAny_standAt ?_)) fun _ _ q => q)))
  have hp : ((backTo pos ((false, eval e env) :: starEach rest env)).any (·.1) || ([] : List (Option Str × Sem Value)).any (·.1.isNone)) = false := by
    rw [List.any_nil, Bool.or_false]
    show (false || (backTo pos (starEach rest env)).any (·.1)) = false
    rw [hplain]; rfl
  rw [hp]
  refine wpC_then (wpAny_pure ?_)
  exact wpC_bind (wpC_mono h₁ (fun r s₂ hr => wpC_any (wpAny_bind (wpAny_holding (wpAny_point (wpAny_pure hr))))) fun _ _ q => q)
/-- a call of a def of the text's own, at the call's place -/
theorem c_fnC {Q : Value → Shared → Prop} {n : Nat} {ex : Expr} {rest : List Expr} (T : Tops mg mb fa G)
    (h : wpAny (model prog w) A (spliced (backTo pos (starEach (ex :: rest) env))) (fun vs s₁ => G.StaysIn s₁.heap ∧ wpC (model prog w) A (call (.ref (fa n)) vs) Q E s₁) E s)
    (hn : n ∈ [1, 2, 3, 9, 11, 12, 13, 14, 15, 16, 17, 18, 19] := by decide) (he : starEach (ex :: rest) env = (false, eval ex env) :: starEach rest env := by rfl) :
    wpC (model prog w) A (callWith pos (.ref (fa n)) [] (backTo pos (starEach (ex :: rest) env)) []) Q E s := by
  obtain ⟨o, _, _, _, _, h1, h2, _⟩ := (T.fn n hn).2
  exact callDefC h2 (wpAny_mono h (fun vs s₁ q => ⟨q.1 _ _ h1, q.2⟩) fun _ _ q => q) he
/-- into a def of the text's own that may raise or change what it is given -/
theorem c_inC {Q : Value → Shared → Prop} (n : Nat) {args : List Value} {binds : List (Str × Value)} (T : Tops mg mb fa Gt) (ht : Gt.StaysIn Gb) (hgb : Gb.StaysIn s.heap) (hR : A.depth < recursionLimit) (hI : ∀ a sh, I a = some sh → sh.At s.heap a)
    (hmu : ∀ p ∈ mu, p.2.At s.heap p.1 ∧ I p.1 = none ∧ Gb.get? p.1 = none) (nd : (mu.map (·.1)).Nodup)
    (hb : ∀ doc pm an cd, bindArgs (fnX (fnName n) (fnName n) (fnParams n) (fnBody n) (fnScope n) [] .none .none doc pm an cd .none) ⟨args, []⟩ = pure binds)
    (h : ∀ cd h₀, Bd ⟨Gb, I⟩ ⟨rawOf s.heap (mu.map (·.1)), I, Gt⟩ I s.heap.objs.size (fun x => binds.reverse.lookup x) mu h₀ →
      wpC (model prog w) (A.deeper (envX (fnName n) (fnScope n) s.heap.objs.size (fa n) cd [])) (execs (fnBody n) (envX (fnName n) (fnScope n) s.heap.objs.size (fa n) cd []))
        (fun f s' => Q (match f with | .ret v => v | _ => .none) s')
        (fun x s' => wpAny (model prog w) (A.deeper (envX (fnName n) (fnScope n) s.heap.objs.size (fa n) cd [])) (leaving (envX (fnName n) (fnScope n) s.heap.objs.size (fa n) cd []) x) (fun _ s'' => E x s'') (fun y s'' => E y s'') s') { s with heap := h₀, toks := s.toks + binds.length })
    (hn : n ∈ [1, 2, 3, 9, 11, 12, 13, 14, 15, 16, 17, 18, 19] := by decide) (hcell : ∀ x ∈ (fnScope n).names, x.2 ≠ .cell := by decide) (hloc : ∀ x ∈ binds, (fnScope n).names.lookup x.1 = some .local)
    (hco : (fnScope n).isCoroutine = false := by rfl) (hgen : (fnScope n).isGenerator = false := by rfl) (hk : (fnScope n).kind = .function := by rfl) :
    wpC (model prog w) A (call (.ref (fa n)) args) Q E s := by
  obtain ⟨o, doc, pm, an, cd, h1, h2, h3⟩ := (T.fn n hn).2
  have hG : Gt.StaysIn s.heap := fun b o q => hgb b o (ht b o q)
  refine wpC_call (defC (fd := fnX (fnName n) (fnName n) (fnParams n) (fnBody n) (fnScope n) [] .none .none doc pm an cd .none) hR (hG _ _ h1) h2 (T.nolimit.keeps hG) (h3.keeps hG) rfl (BindsTo.of_eq (hb doc pm an cd)) hcell hloc (fun h₀ hns hk₀ => ?_) hco hgen hk)
  exact wpC_mono (h cd h₀ (Bd.enterX ht hgb hI hmu nd hns hk₀)) (fun _ _ q => q) fun _ _ q => q
end
section
variable {prog : Program} {w : World} {A : Around} {E : Value → Shared → Prop} {s : Shared} {K : Frag} {e t0 : Addr} {cls : Value}
/-- an exception of an own class -/
noncomputable def ExcOf (h : Heap) (e : Addr) (cls a0 : Value) : Prop := ∃ o vs, h.get? e = some o ∧ o.cls = cls ∧ o.data = .fields vs ∧ vs[0]? = some a0
theorem bexc_kind : builtinKind "BaseException.__str__" = some .slot := by decide +kernel
theorem bexc_split : splitId "BaseException.__str__" = some ("BaseException", "__str__") := by decide +kernel
theorem bexc_args {M : Model} {items : List Value} {Q : Value × List Value → Shared → Prop} (x : ExcOf s.heap e cls (.ref t0)) (ht : s.heap.TupAt t0 items) (hq : Q (.ref t0, items) s) : wpAny M A (Builtin.BaseException.bexcArgs (.ref e)) Q E s := by
  obtain ⟨o, vs, ho, _, hd, h0⟩ := x
  obtain ⟨ot, k, hto, _, htd⟩ := ht
  unfold Builtin.BaseException.bexcArgs
  refine wpAny_bind (wpAny_field ho hd h0 (wpAny_bind (wpAny_seqItems hto htd ?_)))
  show wpAny M A (pure (Value.ref t0, items.toArray.toList)) Q E s
  rw [show items.toArray.toList = items by simp]; exact wpAny_pure hq
theorem strOf_own {m : Str} {tk : Tok} {Q : Value → Shared → Prop} (X : K.In s.heap) (hs : findIn K cls "__str__" = some (some (.builtin "BaseException.__str__"))) (hb : subIn K cls (.type "BaseException") = some true)
    (hu : A.units < cLine) (x : ExcOf s.heap e cls (.ref t0)) (ht : s.heap.TupAt t0 [.str m tk]) (hq : Q (.str m tk) s) : wpAny (model prog w) A (Builtin.Str.strOf (.ref e)) Q E s := by
  obtain ⟨o, vs, ho, hc, hd, h0⟩ := id x
  have LT : Looks (model prog w) s.heap (typeOf (.ref e)) cls := hc ▸ (Looks.ld ho).andThen .now
  have LS : Looks (model prog w) s.heap (specialOf (.ref e) "__str__") (some (.builtin "BaseException.__str__")) := LT.andThen (looks_findIn X hs)
  have LI : Looks (model prog w) s.heap (isInstance (.ref e) (.type "BaseException")) true := LT.andThen (looks_subIn X hb)
  have call : ∀ {A' : Around} {Q' : Value → Shared → Prop} {E' : Value → Shared → Prop}, Q' (.str m tk) s → wpAny (model prog w) A' (call (.builtin "BaseException.__str__") [.ref e]) Q' E' s := fun {A' Q' E'} hq' => by
    refine wpAny_call (codeAny_call_builtin (by decide +kernel) F.entry_bexc_str (@check_slot (model prog w) _ _ s "BaseException.__str__" "BaseException" "__str__" (.ref e) [] [] _ bexc_kind bexc_split LI (F.args_bexc_str _) ?_))
    unfold Builtin.«BaseException.__str__»
    repeat (first | with_reducible refine bexc_args x ht ?_ | wp_step)
    exact hq'
  unfold Builtin.Str.strOf
  refine wpAny_bind (wpAny_cRoomFor hu ?_)
  have cs : ∀ {Q' : Option Value → Shared → Prop}, Q' (some (.str m tk)) s → wpAny (model prog w) A (callSpecial? (.ref e) "__str__" []) Q' E s := fun {Q'} hq' => by
    unfold callSpecial?
    refine wpAny_bind (LS.here ?_)
    dsimp only
    refine wpAny_holding ?_
    rw [F.excStr_ValueError.str.bind]
    exact wpAny_bind (wpAny_pure (wpAny_bind (call (wpAny_pure hq'))))
  refine wpAny_bind (cs ?_)
  exact wpAny_bind (wpAny_pure (wpAny_pure hq))
/-- str() of it -/
theorem str_own {m : Str} {tk : Tok} {Q : Value → Shared → Prop} (X : K.In s.heap) (hs : findIn K cls "__str__" = some (some (.builtin "BaseException.__str__"))) (hb : subIn K cls (.type "BaseException") = some true)
    (hu : A.units + 2 < cLine) (x : ExcOf s.heap e cls (.ref t0)) (ht : s.heap.TupAt t0 [.str m tk]) (hq : Q (.str m tk) s) : wpAny (model prog w) A (call (.type "str") [.ref e]) Q E s :=
  callType_new F.called_str (by decide) (F.typeCall_str_1 _) (F.newCall_str_1 _) (fun obj => F.args_object_init_2 obj _) F.entry_str_new
    (meets_str_new (S := fun A' R s' => A'.units + 1 < cLine ∧ K.In s'.heap ∧ ExcOf s'.heap e cls (.ref t0) ∧ s'.heap.TupAt t0 [.str m tk] ∧ R (.ok (.ret (.str m tk))) s')
      fun _ _ A' _ _ hq => strOf_own (A := A'.in1) hq.2.1 hs hb hq.1 hq.2.2.1 hq.2.2.2.1 hq.2.2.2.2)
    ⟨(show A.units + 1 + 1 < cLine from hu), X, x, ht, typeIs_str _ _ _, hq⟩
end
inductive PR where | code | proto | bad | port (n : Int)
  deriving DecidableEq
noncomputable abbrev chr1 (x : Str) (i : Int) : Str := Txt.item x i
noncomputable def leftF (x : Str) : Int := Txt.find x (Str.ofString "(")
noncomputable def rightF (x : Str) : Int := Txt.find3 x (Str.ofString ")") (leftF x + 1)
noncomputable def partsOf (x : Str) : List Str := Txt.split (Txt.slice x (some (leftF x + 1)) (some (rightF x))) (chr1 x (leftF x + 1))
noncomputable def parseF (x : Str) : PR :=
  if (Txt.slice x none (some 3) != Str.ofString "229") = true then .code else
  if leftF x < 0 then .proto else
  if rightF x < 0 then .proto else
  if (chr1 x (leftF x + 1) != chr1 x (rightF x - 1)) = true then .proto else
  if (partsOf x).length ≠ 5 then .proto else
  match PySem.intText? ((partsOf x).getD 3 (Str.ofString "")) with | some n => .port n | none => .bad
section
variable {x : Str}
theorem parse_0 (c : (Txt.slice x none (some 3) != Str.ofString "229") = true) : parseF x = .code := by unfold parseF; rw [if_pos c]
theorem parse_1 (c : (Txt.slice x none (some 3) != Str.ofString "229") = false) (h : leftF x < 0) : parseF x = .proto := by unfold parseF; rw [if_neg (by rw [c]; decide), if_pos h]
theorem parse_2 (c : (Txt.slice x none (some 3) != Str.ofString "229") = false) (h : ¬ leftF x < 0) (h2 : rightF x < 0) : parseF x = .proto := by unfold parseF; rw [if_neg (by rw [c]; decide), if_neg h, if_pos h2]
theorem parse_3 (c : (Txt.slice x none (some 3) != Str.ofString "229") = false) (h : ¬ leftF x < 0) (h2 : ¬ rightF x < 0) (h3 : (chr1 x (leftF x + 1) != chr1 x (rightF x - 1)) = true) : parseF x = .proto := by
  unfold parseF; rw [if_neg (by rw [c]; decide), if_neg h, if_neg h2, if_pos h3]
theorem parse_4 (c : (Txt.slice x none (some 3) != Str.ofString "229") = false) (h : ¬ leftF x < 0) (h2 : ¬ rightF x < 0) (h3 : (chr1 x (leftF x + 1) != chr1 x (rightF x - 1)) = false) (h4 : (partsOf x).length ≠ 5) : parseF x = .proto := by
  unfold parseF; rw [if_neg (by rw [c]; decide), if_neg h, if_neg h2, if_neg (by rw [h3]; decide), if_pos h4]
theorem parse_5 (c : (Txt.slice x none (some 3) != Str.ofString "229") = false) (h : ¬ leftF x < 0) (h2 : ¬ rightF x < 0) (h3 : (chr1 x (leftF x + 1) != chr1 x (rightF x - 1)) = false) (h4 : ¬ (partsOf x).length ≠ 5) :
    parseF x = match PySem.intText? ((partsOf x).getD 3 (Str.ofString "")) with | some n => .port n | none => .bad := by
  unfold parseF; rw [if_neg (by rw [c]; decide), if_neg h, if_neg h2, if_neg (by rw [h3]; decide), if_neg h4]
end
theorem lr_bounds {x : Str} (h : ¬ leftF x < 0) (h2 : ¬ rightF x < 0) : leftF x + 1 ≤ rightF x ∧ rightF x < (x.length : Int) := by
  have hf : 0 ≤ leftF x ∧ leftF x + 1 ≤ (x.length : Int) := by
    rcases fact_find x (Str.ofString "(") with q | q
    · have : leftF x = -1 := q
      omega
    · exact q
  rcases StrLaws.find3_spec x 41 (leftF x + 1) with ⟨q, _⟩ | ⟨k, q, k1, k2, _⟩
  · have : rightF x = -1 := q
    omega
  · have e : rightF x = (k : Int) := q
    have : fromIndex x.length (leftF x + 1) = (leftF x + 1).toNat := by
      unfold fromIndex
      simp only [show ¬ leftF x + 1 < 0 by omega, if_false]
      omega
    omega
section
variable {prog : Program} {w : World} {A : Around} {E : Value → Shared → Prop} {s : Shared} {Gt Gb : Heap} {mg mb : Str → Option Value} {fa : Nat → Addr} {l : List Env} {I : Fz}
theorem i_chr {value slice : Expr} {x : Str} {t u : Tok} {i : Int} {Q : Value → Shared → Prop} (h0 : 0 ≤ i) (h1 : i < (x.length : Int)) (hz : x.length ≤ 100000) (h : ∀ t' k, Q (.str (Txt.item x i) t') { s with toks := k })
    (hs : subscripted slice false (.str x t) (.int i u) = operate [.str x t, .int i u] (getItem (.str x t) (.int i u)) := by with_unfolding_all rfl)
    (ht : ∀ r, letTemporaryGo value (.str x t) r = pure () := by intro _; with_unfolding_all rfl) :
    wpAny (model prog w) A (subscriptTail value slice (.str x t) (.int i u)) Q E s :=
  item_str (by simp [fitsSsize]; omega) (by omega) (by omega) (fun q => h _ _) hs ht
open Builtin.Str in
/-- a text cut at a sign -/
theorem t_split {g : Gd} {en : Ent} {m : Str → Option Value} {mu : List (Addr × Sh)} {L : Addr} {x y : Str} {t u : Tok} {Q : Value → Shared → Prop} (B : Bd g en I L m mu s.heap) (hy : (y.length == 0) = false) (hsz : x.length ≤ 100000)
    (h : ∀ D l h' k J, l.map (·.1) = Txt.split x y → Bd g en J L m mu h' → I.le J → J D = some (.list (strValues l)) → Q (.ref D) { s with heap := h', toks := k }) :
    wpAny (model prog w) A (call (.builtin "str.split") [.str x t, .str y u]) Q E s := by
  have fin : ∀ l k, l.map (·.1) = Txt.split x y → Q (.ref s.heap.objs.size) { s with heap := s.heap.push { cls := .type "list", data := .seq (strValues l).toArray }, toks := k } := fun l k e =>
    h _ l _ k _ e (B.alloc (sh := .list (strValues l)) ⟨rfl, rfl, 0, rfl⟩ rfl) (Fz.le_put _ (B.none_of (fresh _))) (Fz.put_self _ _ _)
  have hz : x.length ≤ sizeLine := by rw [sizeLine_eq]; omega
  have hn : (partsBetween x (occurrences x y 0 x.length (x.length + 1)) y.length).length ≤ sizeLine := by
    have e1 := StrLaws.occ_length_le x y 0 x.length (x.length + 1)
    rw [length_partsBetween, sizeLine_eq]; omega
  by_cases h1 : (decide (x.length < y.length) || decide (strKind x < strKind y)) = true
  · exact call_meets F.slot_str_split (typeIs_str _ _ _) F.entry_str_split (F.args_str_split_2 _ _) (meets_str_split_cannot_occur x y t u h1) (fin [(x, t)] s.toks (if_pos h1).symm)
  · have h1' : (decide (x.length < y.length) || decide (strKind x < strKind y)) = false := by simpa using h1
    by_cases hf : (occurrences x y 0 x.length (x.length + 1)).isEmpty = true
    · exact call_meets F.slot_str_split (typeIs_str _ _ _) F.entry_str_split (F.args_str_split_2 _ _) (meets_str_split_not_found x y t u h1' hy hf) (fin [(x, t)] s.toks ((if_neg h1).trans (if_pos hf)).symm)
    · refine call_meets F.slot_str_split (typeIs_str _ _ _) F.entry_str_split (F.args_str_split_2 _ _) (meets_str_split_sep x y t u h1' hy (by simpa using hf) hz hn) ?_
      show wants Q E _ { s with toks := _, heap := s.heap.push { cls := .type "list", data := .seq (strsFrom s.toks (partsBetween x (occurrences x y 0 x.length (x.length + 1)) y.length)).toArray } }
      rw [strsFrom_eq]
      exact fin (numbered s.toks _) _ ((numbered_texts _ _).trans ((if_neg h1).trans (if_neg hf)).symm)
/-- a raise of an own class -/
theorem r_own {g : Gd} {en : Ent} {m : Str → Option Value} {mu : List (Addr × Sh)} {L : Addr} {env : Env} {x : Str} {C : Addr} {np cpos pos : Pos} {e₀ : Expr} {rest : List Expr} {Q : Flow → Shared → Prop} (B : Bd g en I L m mu s.heap) (T : Tops mg mb fa en.top) (O : OwnCls x C bmE "Exception.__new__" mg en.top) (hh : A.handled = none)
    (h : wpAny (model prog w) A (spliced (backTo cpos (starEach (e₀ :: rest) env))) (fun vs s₂ => vs.length ≤ sizeLine ∧ en.top.StaysIn s₂.heap ∧ ∀ h' e, Heap.MadeExcOf s₂.heap h' e (.ref C) vs → E (.ref e) { s₂ with heap := h' }) E s)
    (he : starEach (e₀ :: rest) env = (false, eval e₀ env) :: starEach rest env := by rfl) (hplain : (backTo cpos (starEach rest env)).any (·.1) = false := by rfl)
    (hg : env.globals = mainGlobals := by rfl) (hk : env.scope.kind = .function := by rfl) (hl : env.kindOf x = some .globalImplicit := by rfl) (hd : (x == ("__debug__" : Str)) = false := by decide) :
    wpAny (model prog w) A (exec (.Raise (some (.Call (.Name x np) (e₀ :: rest) [] cpos)) none pos) env) Q E s := by
  obtain ⟨tl, N, nm, q, bs, hdct, sn, sub, ab, col, dd, k0, k1, k2, k3, k5, mN, hC, hN, hni, TL⟩ := O.obj
  refine wpAny_Raise_call_subU (C := C) (nm := nm) (q := q) (N := N) (bs := bs) (bm := tl) (hdct := hdct) (sn := sn) (sub := sub) (ab := ab) (col := col) (dd := dd) (k0 := k0) (k1 := k1) (k2 := k2) (k3 := k3) (k5 := k5)
    F.excBase_Exception (by decide) F.excBase_Exception (mN := mN) (TL.hasType F.excBase_Exception.hasBase) hh (by rw [he]; show (false || (backTo cpos (starEach rest env)).any (·.1)) = false; rw [hplain]; rfl) hni
    (Name_function_global hk hl (loadGlobal_global (hg ▸ T.g.keeps B.tops) O.bound ⟨rfl, ?_⟩) hd)
  rw [he] at h ⊢
  exact evalArgs_plain (wpAny_mono h (fun vs s₂ h₂ => ⟨rfl, h₂.1, h₂.2.1 _ _ hC, hN.keeps h₂.2.1, TL.keeps h₂.2.1, h₂.2.2⟩) fun _ _ y => y)
set_option maxHeartbeats 8000000 in
theorem parse_tail {Q : Flow → Shared → Prop} {y : Str} {t u : Tok} {q0 q1 q2 q3 q4 : Str × Tok} {pa D L : Addr} {cd : Value} {m : Str → Option Value} {g : Gd} {en : Ent} (T : Tops mg mb fa en.top) (hh : A.handled = none)
    (B : Bd g en I L m [] s.heap) (m1 : m "peer" = some (.ref pa)) (m2 : m "parts" = some (.ref D)) (hp : I pa = some (.tup [.str y t, .int 7 u])) (hD : I D = some (.list [.str q0.1 q0.2, .str q1.1 q1.2, .str q2.1 q2.2, .str q3.1 q3.2, .str q4.1 q4.2]))
    (h4 : q3.1.length ≤ 640) (h3 : PySem.intText? q3.1 = none → q3.1.length ≤ 40 ∧ (∀ c ∈ q3.1.cps.toList, c < 16 ^ 8) ∧ ((numSeenOf q3.1).length == (numTextOf q3.1).length) = true)
    (hQ : ∀ n J a h' tk v m', PySem.intText? q3.1 = some n → Bd g en J L m' [] h' → J a = some (.tup [.str y t, .int n v]) → Q (.ret (.ref a)) { s with heap := h', toks := tk })
    (hE : ∀ h₁ m' J h' e w tk k, PySem.intText? q3.1 = none → Bd g en J L m' [] h₁ → Heap.MadeExc h₁ h' e "ValueError" [.str w tk] → E (.ref e) { s with heap := h', toks := k }) :
    wpC (model prog w) A (execs ((fnBody 9).drop 8) (envX (fnName 9) (fnScope 9) L (fa 9) cd [])) Q E s := by
  with_unfolding_all show wpC _ _ (execs (_ :: _ :: _ :: []) _) _ _ _
  refine execsA ?_
  repeat' (walk_at "mm")
  show wpC _ _ (execs _ _) _ _ _
  refine execsC (assignC (calledC ?_))
  repeat' (walk_at "mm")
  refine callTypeWithC ?_
  repeat' (walk_at "mm")
  rename Bd _ _ _ _ _ _ _ => B₁
  cases hi : PySem.intText? q3.1 with
  | none =>
    obtain ⟨i1, i2, i3⟩ := h3 hi
    refine int_bad hh i1 i2 hi i3 fun h' e w tk k M => ?_
    exact hE _ _ _ _ _ _ _ _ hi B₁ M
  | some n =>
    refine wpC_any (KIN.call_text hi h4 ?_)
    dsimp only
    repeat' (walk_at "mm")
    refine wpC_any ?_
    repeat' (walk_at "mm")
    refine a_tup (by assumption) fun a h' J B' hJ ha => ?_
    dsimp only
    exact hQ _ _ _ _ _ _ _ hi B' ha
set_option maxHeartbeats 8000000 in
theorem parse_spec {Q : Value → Shared → Prop} {x y : Str} {t u v : Tok} {pa Cr Cp : Addr} (T : Tops mg mb fa Gt) (hT : Gt.StaysIn Gb) (hR : Rm A 4) (hfr : A.frames = some l) (hl : s.heap.FunFrames Gb l) (hb : Gb.StaysIn s.heap)
    (Or : OwnCls (Str.ofString "error_reply") Cr bmE "Exception.__new__" mg Gt) (Op : OwnCls (Str.ofString "error_proto") Cp bmE "Exception.__new__" mg Gt)
    (hI : ∀ a sh, I a = some sh → sh.At s.heap a) (hp : I pa = some (.tup [.str y t, .int 7 u])) (hx : x.length ≤ 100000)
    (hE0 : parseF x = .code → ∀ e h' tk v, Err Gb l .none (.ref Cr) [.str x v] [] s.heap e h' → E (.ref e) { s with heap := h', toks := tk })
    (hE1 : parseF x = .proto → ∀ e h' tk v, Err Gb l .none (.ref Cp) [.str x v] [] s.heap e h' → E (.ref e) { s with heap := h', toks := tk })
    (hx3 : ∀ q ∈ partsOf x, parseF x = .bad → q.length ≤ 40 ∧ (∀ c ∈ q.cps.toList, c < 16 ^ 8) ∧ ((numSeenOf q).length == (numTextOf q).length) = true) (hx4 : ∀ q ∈ partsOf x, q.length ≤ 640)
    (hE2 : parseF x = .bad → ∀ e h' tk m v, Err Gb l .none (.type "ValueError") [.str m v] [] s.heap e h' → E (.ref e) { s with heap := h', toks := tk })
    (hQ : ∀ n J a h' tk v, parseF x = .port n → Ret I s.heap h' J → J a = some (.tup [.str y t, .int n v]) → Q (.ref a) { s with heap := h', toks := tk }) :
    wpC (model prog w) A (call (.ref (fa 9)) [.str x v, .ref pa]) Q E s := by
  refine c_inC 9 (Gb := s.heap) (I := I) (mu := []) (binds := [("resp", .str x v), ("peer", .ref pa)]) T (fun b o q => hb b o (hT b o q)) (fun _ _ q => q) (by have := hR.dp; omega) hI (fun _ q => nomatch q) List.nodup_nil (fun _ _ _ _ => rfl) (fun cd h₀ B => ?_) (hloc := locs rfl)
  have hR' := Rm.deeper (n := 3) hR (envX (fnName 9) (fnScope 9) s.heap.objs.size (fa 9) cd [])
  have hfr' := Around.frames_deeper (env := envX (fnName 9) (fnScope 9) s.heap.objs.size (fa 9) cd []) hfr
  generalize A.deeper _ = A' at hR' hfr' ⊢
  have kG : Gb.StaysIn s.heap := hb
  with_unfolding_all show wpC _ _ (execs (_ :: _ :: _ :: _ :: _ :: _ :: _ :: _ :: _ :: _ :: _ :: []) _) _ _ _
  refine execsA ?_
  repeat' (walk_at "mm")
  · rename_i hc
    refine r_own (by assumption) T Or hR'.hd ?_
    repeat' (walk_at "mm")
    · exact Bd.tops (by assumption)
    · rename_i M
      refine out_made (l := l) hfr' hl (by assumption) kG M fun h₂ er => ?_
      exact hE0 (parse_0 hc) _ _ _ _ er
  · rename_i c1
    show wpC _ _ (execs _ _) _ _ _
    refine execsA ?_
    repeat' (walk_at "mm")
    show wpC _ _ (execs _ _) _ _ _
    refine execsA ?_
    repeat' (walk_at "mm")
    · rename_i hc
      refine r_own (by assumption) T Op hR'.hd ?_
      repeat' (walk_at "mm")
      · exact Bd.tops (by assumption)
      · rename_i M
        refine out_made (l := l) hfr' hl (by assumption) kG M fun h₂ er => ?_
        exact hE1 (parse_1 c1 hc) _ _ _ _ er
    rename_i c2
    show wpC _ _ (execs _ _) _ _ _
    refine execsA ?_
    repeat' (walk_at "mm")
    show wpC _ _ (execs _ _) _ _ _
    refine execsA ?_
    repeat' (walk_at "mm")
    · rename_i hc
      refine r_own (by assumption) T Op hR'.hd ?_
      repeat' (walk_at "mm")
      · exact Bd.tops (by assumption)
      · rename_i M
        refine out_made (l := l) hfr' hl (by assumption) kG M fun h₂ er => ?_
        exact hE1 (parse_2 c1 c2 hc) _ _ _ _ er
    rename_i c3
    show wpC _ _ (execs _ _) _ _ _
    refine execsA ?_
    repeat' (walk_at "mm")
    have hlr := lr_bounds c2 c3
    have hl0 : 0 ≤ leftF x := by have c2' : ¬ leftF x < 0 := c2; omega
    refine i_chr (i := leftF x + 1) (by omega) (by omega) hx fun t1 k1 => ?_
    dsimp only
    repeat' (walk_at "mm")
    refine i_chr (i := rightF x - 1) (by omega) (by omega) hx fun t2 k2 => ?_
    dsimp only
    repeat' (walk_at "mm")
    · rename_i hc
      refine r_own (by assumption) T Op hR'.hd ?_
      repeat' (walk_at "mm")
      · exact Bd.tops (by assumption)
      · rename_i M
        refine out_made (l := l) hfr' hl (by assumption) kG M fun h₂ er => ?_
        exact hE1 (parse_3 c1 c2 c3 hc) _ _ _ _ er
    rename_i c4
    show wpC _ _ (execs _ _) _ _ _
    refine execsA ?_
    repeat' (walk_at "mm")
    refine i_chr (i := leftF x + 1) (by omega) (by omega) hx fun t3 k3 => ?_
    dsimp only
    repeat' (walk_at "mm")
    rename_i lx Bx
    refine t_split Bx (by rfl) (by omega) fun D ps h₃ k₃ J hps B₃ hJ hD => ?_
    dsimp only
    repeat' (walk_at "mm")
    rename_i B₄
    have hpl : (strValues ps).length = (partsOf x).length := by rw [show partsOf x = ps.map (·.1) from hps.symm]; simp [strValues]
    have hple : (partsOf x).length ≤ 100010 := by
      have h1 := split_le (Txt.slice x (some (leftF x + 1)) (some (rightF x))) (chr1 x (leftF x + 1))
      have h2 : (Txt.slice x (some (leftF x + 1)) (some (rightF x))).length ≤ x.length := lx
      exact Nat.le_trans h1 (by omega)
    refine execsA ?_
    repeat' (walk_at "mm")
    · rename_i hc
      refine r_own (by assumption) T Op hR'.hd ?_
      repeat' (walk_at "mm")
      · exact Bd.tops (by assumption)
      · rename_i M
        refine out_made (l := l) hfr' hl (by assumption) kG M fun h₂ er => ?_
        exact hE1 (parse_4 c1 c2 c3 c4 (by rw [← hpl]; intro q; rw [q] at hc; exact absurd hc (by decide))) _ _ _ _ er
    rename_i c5
    have c5' : (partsOf x).length = 5 := by
      rw [← hpl]
      have c6 : ((strValues ps).length : Int) = 5 := by simpa using c5
      omega
    have hF := parse_5 c1 c2 c3 c4 (by rw [c5']; decide)
    obtain ⟨q0, q1, q2, q3, q4, hq⟩ : ∃ q0 q1 q2 q3 q4, ps = [q0, q1, q2, q3, q4] := by
      have : ps.length = 5 := by rw [← c5', ← hpl]; simp [strValues]
      match ps, this with
      | [q0, q1, q2, q3, q4], _ => exact ⟨q0, q1, q2, q3, q4, rfl⟩
    have hp3 : (partsOf x).getD 3 (Str.ofString "") = q3.1 := by rw [show partsOf x = ps.map (·.1) from hps.symm, hq]; rfl
    have hm3 : q3.1 ∈ partsOf x := by rw [show partsOf x = ps.map (·.1) from hps.symm, hq]; simp
    rw [hp3] at hF
    have hD' : J D = some (.list [.str q0.1 q0.2, .str q1.1 q1.2, .str q2.1 q2.2, .str q3.1 q3.2, .str q4.1 q4.2]) := by rw [hD, hq]; rfl
    clear hD
    show wpC _ _ (execs ((fnBody 9).drop 8) _) _ _ _
    refine parse_tail (q0 := q0) (q1 := q1) (q2 := q2) (q3 := q3) (q4 := q4) (D := D) (pa := pa) T hR'.hd B₄ (by with_unfolding_all rfl) (by with_unfolding_all rfl) (hJ _ _ hp) hD' (hx4 _ hm3) ?_ ?_ ?_
    · intro hi; exact hx3 _ hm3 (by rw [hF, hi])
    · intro n J' a h' tk v' m' hi B' ha
      exact hQ _ _ _ _ _ _ (by rw [hF, hi]) B'.ret ha
    · intro h₁ m' J' h' e w' tk k hi B' M
      refine out_made (l := l) hfr' hl B' kG M.of fun h₂ er => ?_
      exact hE2 (by rw [hF, hi]) _ _ _ _ _ er
end
theorem note_same {x : Value} {env env' : Env} (h : env'.frame = env.frame) : noteFrame x env' = noteFrame x env := by
  unfold noteFrame PySem.frameOf
  rw [h]
section
variable {M : Model} {A : Around} {E : Value → Shared → Prop} {s : Shared} {Gb : Heap} {l : List Env} {env : Env} {L : Addr} {mu : List (Addr × Sh)} {h h' h₀ : Heap} {cls fl : Value} {args : List Value} {x : Addr}
/-- passed on by an inner window -/
theorem err_pass {α : Type} {what : String} {cenv : Env} {Q : α → Shared → Prop} (r : Err Gb l fl cls args mu h₀ x s.heap) (hE : ∀ fl' h', Err Gb l fl' cls args mu h₀ x h' → E (.ref x) { s with heap := h' }) : wpAny M A (PySem.passOn what (.ref x) cenv : Sem α) Q E s := by
  obtain ⟨t, a, b, c, ⟨oe, vs, T, oT, ts, he, hcls, hd, h1, hnT, hTe, hT, hdT, h3⟩, f, k, km⟩ := r
  have hsz3 : 3 < ts.size := (Array.getElem?_eq_some_iff.mp h3).1
  unfold PySem.passOn setFlight
  refine wpAny_bind (wpAny_field he hd h1 ?_)
  rw [if_neg (show ¬ ((Value.ref T == Value.none) = true) from by simp)]
  refine wpAny_bind (wpAny_bind (wpAny_field he hd h1 ?_))
  rw [if_pos (show (Value.ref T != Value.none) = true from by simp)]
  refine wpAny_setField hT hdT hsz3 (wpAny_throw ?_)
  generalize cenv.frame.elim Value.none (fun f => rawInt f) = fv
  have other : ∀ b, b ≠ T → (s.heap.update T (Obj.mapFields (·.setIfInBounds 3 fv))).get? b = s.heap.get? b := fun b hb => Heap.get?_update_other _ _ (Ne.symm hb)
  have noRecord : ∀ b o, s.heap.get? b = some o → (∀ vs, o.data ≠ .fields vs) → b ≠ T := fun b o hb hnf q => by
    rw [q, hT] at hb; injection hb with hb; subst hb; exact hnf ts hdT
  have u : s.heap.UpToSlots (s.heap.update T (Obj.mapFields (·.setIfInBounds 3 fv))) := fun b o hb hn => ⟨o.slots, (other b (noRecord b o hb hn)).trans hb⟩
  refine hE fv _ ⟨t, fun b o q => (other b fun r => by rw [r, hnT] at q; cases q).trans (a b o q), b, c.of_keeps fun b o hb hnf => ⟨o, (other b (noRecord b o hb hnf)).trans hb, rfl⟩, ?_, f.of_slots u, k.trans (.of_slots u), fun p hp => (km p hp).up u⟩
  exact ⟨oe, vs, T, _, _, (other x (Ne.symm hTe)).trans he, hcls, hd, h1, hnT, hTe, Heap.get?_update_self _ hT (Obj.isFreed_of_fields (Obj.data_mapFields hdT _)), Obj.data_mapFields hdT _, by simp [hsz3]⟩
/-- its flight's mark laid down -/
theorem Err.unmark (r : Err Gb l fl cls args mu h₀ x h) : ∃ T oe vs oT ts, h.get? x = some oe ∧ oe.data = .fields vs ∧ vs[1]? = some (.ref T) ∧ h.get? T = some oT ∧ oT.data = .fields ts ∧ ts[3]? = some fl ∧
    Err Gb l .none cls args mu h₀ x (h.update T (Obj.mapFields (·.setIfInBounds 3 .none))) ∧ h.UpToSlots (h.update T (Obj.mapFields (·.setIfInBounds 3 .none))) := by
  obtain ⟨t, a, b, c, ⟨oe, vs, T, oT, ts, he, hcls, hd, h1, hnT, hTe, hT, hdT, h3⟩, f, k, km⟩ := r
  have hsz3 : 3 < ts.size := (Array.getElem?_eq_some_iff.mp h3).1
  have other : ∀ b, b ≠ T → (h.update T (Obj.mapFields (·.setIfInBounds 3 .none))).get? b = h.get? b := fun b hb => Heap.get?_update_other _ _ (Ne.symm hb)
  have noRecord : ∀ b o, h.get? b = some o → (∀ vs, o.data ≠ .fields vs) → b ≠ T := fun b o hb hnf q => by
    rw [q, hT] at hb; injection hb with hb; subst hb; exact hnf ts hdT
  have u : h.UpToSlots (h.update T (Obj.mapFields (·.setIfInBounds 3 .none))) := fun b o hb hn => ⟨o.slots, (other b (noRecord b o hb hn)).trans hb⟩
  refine ⟨T, oe, vs, oT, ts, he, hd, h1, hT, hdT, h3, ⟨t, fun b o q => (other b fun r => by rw [r, hnT] at q; cases q).trans (a b o q), b, c.of_keeps fun b o hb hnf => ⟨o, (other b (noRecord b o hb hnf)).trans hb, rfl⟩, ?_, f.of_slots u, k.trans (.of_slots u), fun p hp => (km p hp).up u⟩, u⟩
  exact ⟨oe, vs, T, _, _, (other x (Ne.symm hTe)).trans he, hcls, hd, h1, hnT, hTe, Heap.get?_update_self _ hT (Obj.isFreed_of_fields (Obj.data_mapFields hdT _)), Obj.data_mapFields hdT _, by simp [hsz3]⟩
/-- noted at a frame, whatever its flight -/
theorem err_note_any {Q : Unit → Shared → Prop} (hfr : A.frames = some (env :: l)) (r : Err Gb (env :: l) fl cls args mu h₀ x s.heap)
    (hQ : ∀ h', Err Gb (env :: l) (rawInt L) cls args mu h₀ x h' → Q () { s with heap := h' }) (hf : env.frame = some L := by rfl) : wpAny M A (noteFrame (.ref x) env) Q E s := by
  by_cases q : fl = rawInt L
  · subst q
    have d := r
    obtain ⟨t, a, b, c, d', _⟩ := d
    exact wpAny_noteFrame_againW hf d' (hQ s.heap r)
  · obtain ⟨T, oe, vs, oT, ts, he, hd, h1, hT, hdT, h3, r', u⟩ := r.unmark
    unfold noteFrame
    simp only [hf]
    refine wpAny_bind (wpAny_field he hd h1 ?_)
    rw [if_pos (show (Value.ref T != Value.none) = true from by simp)]
    refine wpAny_bind (wpAny_field hT hdT h3 ?_)
    rw [if_neg (by simpa using q)]
    refine wpAny_bind (wpAny_setField hT hdT (Array.getElem?_eq_some_iff.mp h3).1 ?_)
    obtain ⟨t, a, b, c, ⟨oe', vs', T', oT', ts', he', ⟨hcls, h0'⟩, hd', h1', hnT, hTe, hT', hdT', h3'⟩, f, k, km⟩ := r'
    refine wpAny_entryW (a0 := .ref t) hfr c hf he' a b hd' (Array.getElem?_eq_some_iff.mp h1').1 h0' fun h' ⟨n1, n2, n3, n4⟩ => hQ h' ?_
    exact ⟨t, n1, b, n2, hcls ▸ n3, f.of_slots n4, k.trans (.of_slots n4), fun p hp => (km p hp).up n4⟩
/-- out of a frame, whatever the flight -/
theorem out_any {Q : Unit → Shared → Prop} (hfr : A.frames = some (env :: l)) (r : Err Gb (env :: l) fl cls args mu h₀ x s.heap) (hQ : ∀ h', Err Gb l .none cls args mu h₀ x h' → Q () { s with heap := h' }) (hf : env.frame = some L := by rfl) :
    wpAny M A (leaving env (.ref x)) Q E s := by
  unfold leaving
  refine wpAny_bind (err_note_any (L := L) hfr r (fun h₁ r₁ => ?_) hf)
  refine err_land r₁ fun h₂ r₂ => ?_
  obtain ⟨t, a, b, c, d⟩ := r₂
  exact hQ h₂ ⟨t, a, b, c.2.2, d⟩
end
section
variable {prog : Program} {w : World} {A : Around} {E : Value → Shared → Prop} {s : Shared} {mg mb : Str → Option Value} {fa : Nat → Addr} {Gb Gt G : Heap} {I : Fz} {l : List Env} {mu : List (Addr × Sh)} {env : Env} {pos : Pos} {R : Result → Shared → Prop}
theorem cellsC {a : Addr} {o : Obj} {fd : FuncData} {body : List Stmt} {vals : List Value} {binds : List (Str × Value)}
    (hroom : A.depth < recursionLimit) (ho : s.heap.get? a = some o) (hdata : o.data = .func fd) (hlim : s.heap.NoLimit) (hcd : s.heap.CodeRec fd.code fd.qualname)
    (hbody : fd.body = .stmts body) (hbind : bindArgs fd ⟨vals, []⟩ = pure binds) (hclo : fd.closure = [])
    (hkind : ∀ x ∈ binds, fd.scope.names.lookup x.1 = some .local ∨ (fd.scope.names.lookup x.1 = some .cell ∧ ((cellsFrom (s.heap.objs.size + 1) fd.scope.names []).lookup x.1).isSome = true))
    (h : ∀ s₁, InCallC s (callEnvC fd s.heap.objs.size a).locals (bindL (callEnvC fd s.heap.objs.size a).kindOf binds fun _ => none) (callEnvC fd s.heap.objs.size a).cells
        (bindC (callEnvC fd s.heap.objs.size a).kindOf binds fun _ => none) s₁ →
      wpC (model prog w) (A.deeper (callEnvC fd s.heap.objs.size a)) (execs body (callEnvC fd s.heap.objs.size a)) (fun f s' => R (.ok (.ret (match f with | .ret v => v | _ => .none))) s')
        (fun e s' => wpAny (model prog w) (A.deeper (callEnvC fd s.heap.objs.size a)) (leaving (callEnvC fd s.heap.objs.size a) e) (fun _ s'' => R (.error e) s'') (fun e' s'' => R (.error e') s'') s') s₁)
    (hco : fd.scope.isCoroutine = false) (hgen : fd.scope.isGenerator = false) (hk : fd.scope.kind = .function) : codeC (model prog w) A (.call (.ref a) ⟨vals, []⟩) R s := by
  refine functionC hroom ho hdata hco hgen hbody hcd ?_
  rw [hbind, hclo]
  refine wpAny_pure (wpAny_newFunctionEnv_cells hk hkind fun env he s' x => ?_)
  subst he
  exact ⟨hlim.keeps x.toInCall.keep, funcC (h s' x)⟩
/-- into a def with one cell -/
theorem c_inC1 {Q : Value → Shared → Prop} (n : Nat) {args : List Value} {binds : List (Str × Value)} {x1 : Str} {v1 : Option Value} (T : Tops mg mb fa Gt) (ht : Gt.StaysIn Gb) (hgb : Gb.StaysIn s.heap) (hR : A.depth < recursionLimit) (hI : ∀ a sh, I a = some sh → sh.At s.heap a)
    (hmu : ∀ p ∈ mu, p.2.At s.heap p.1 ∧ I p.1 = none ∧ Gb.get? p.1 = none) (nd : (mu.map (·.1)).Nodup)
    (hb : ∀ doc pm an cd, bindArgs (fnX (fnName n) (fnName n) (fnParams n) (fnBody n) (fnScope n) [] .none .none doc pm an cd .none) ⟨args, []⟩ = pure binds)
    (h : ∀ cd h₀ tk, Bd ⟨Gb, I⟩ ⟨rawOf s.heap (mu.map (·.1)), I, Gt⟩ (I.put (s.heap.objs.size + 1) (.cell v1)) s.heap.objs.size (bindL (envX (fnName n) (fnScope n) s.heap.objs.size (fa n) cd [(x1, s.heap.objs.size + 1)]).kindOf binds fun _ => none) mu h₀ → I.le (I.put (s.heap.objs.size + 1) (.cell v1)) →
      wpC (model prog w) (A.deeper (envX (fnName n) (fnScope n) s.heap.objs.size (fa n) cd [(x1, s.heap.objs.size + 1)])) (execs (fnBody n) (envX (fnName n) (fnScope n) s.heap.objs.size (fa n) cd [(x1, s.heap.objs.size + 1)]))
        (fun f s' => Q (match f with | .ret v => v | _ => .none) s')
        (fun x s' => wpAny (model prog w) (A.deeper (envX (fnName n) (fnScope n) s.heap.objs.size (fa n) cd [(x1, s.heap.objs.size + 1)])) (leaving (envX (fnName n) (fnScope n) s.heap.objs.size (fa n) cd [(x1, s.heap.objs.size + 1)]) x) (fun _ s'' => E x s'') (fun y s'' => E y s'') s') { s with heap := h₀, toks := tk })
    (hn : n ∈ [1, 2, 3, 9, 11, 12, 13, 14, 15, 16, 17, 18, 19]) (hcl : ∀ k, cellsFrom k (fnScope n).names [] = [(x1, k)])
    (hk1 : ∀ cd, bindC (envX (fnName n) (fnScope n) s.heap.objs.size (fa n) cd [(x1, s.heap.objs.size + 1)]).kindOf binds (fun _ => none) x1 = v1)
    (hkind : ∀ k, ∀ x ∈ binds, (fnScope n).names.lookup x.1 = some .local ∨ ((fnScope n).names.lookup x.1 = some .cell ∧ ((cellsFrom k (fnScope n).names []).lookup x.1).isSome = true))
    (hco : (fnScope n).isCoroutine = false) (hgen : (fnScope n).isGenerator = false) (hk : (fnScope n).kind = .function) :
    wpC (model prog w) A (call (.ref (fa n)) args) Q E s := by
  obtain ⟨o, doc, pm, an, cd, h1, h2, h3⟩ := (T.fn n hn).2
  have hG : Gt.StaysIn s.heap := fun b o q => hgb b o (ht b o q)
  refine wpC_call (cellsC (fd := fnX (fnName n) (fnName n) (fnParams n) (fnBody n) (fnScope n) [] .none .none doc pm an cd .none) hR (hG _ _ h1) h2 (T.nolimit.keeps hG) (h3.keeps hG) rfl (hb doc pm an cd) rfl (hkind _) (fun s₁ x => ?_) hco hgen hk)
  have he : callEnvC (fnX (fnName n) (fnName n) (fnParams n) (fnBody n) (fnScope n) [] .none .none doc pm an cd .none) s.heap.objs.size (fa n) = envX (fnName n) (fnScope n) s.heap.objs.size (fa n) cd [(x1, s.heap.objs.size + 1)] := by
    show envX (fnName n) (fnScope n) s.heap.objs.size (fa n) cd (cellsFrom (s.heap.objs.size + 1) (fnScope n).names []) = _
    rw [hcl]
  rw [he] at x ⊢
  obtain ⟨h₀, tk, rfl⟩ := x.toInCall.same
  have c1 : h₀.IsCell (s.heap.objs.size + 1) v1 := by rw [← hk1 cd]; exact x.cell x1 _ (by show List.lookup x1 [(x1, s.heap.objs.size + 1)] = _; rw [List.lookup_cons]; simp)
  have B := Bd.enterX (Gt := Gt) (Gb := Gb) (I := I) (mu := mu) ht hgb hI hmu nd x.toInCall.ns x.toInCall.keep
  have off : s.heap.get? (s.heap.objs.size + 1) = none := Heap.get?_none_of_le (Nat.le_add_right _ _)
  have nI : I (s.heap.objs.size + 1) = none := by
    cases q : I (s.heap.objs.size + 1) with
    | none => rfl
    | some sh => exact absurd (hI _ sh q).lt (Nat.not_lt.mpr (Nat.le_add_right _ _))
  have nG : Gb.get? (s.heap.objs.size + 1) = none := by
    cases q : Gb.get? (s.heap.objs.size + 1) with
    | none => rfl
    | some o => rw [hgb _ _ q] at off; cases off
  have B1 := B.freeze (at_cell c1) nI nG (rawOf_fresh off) (Nat.ne_of_gt (Nat.lt_succ_self _)) (fun p hp q => by have := (hmu p hp).1.lt; rw [q] at this; exact absurd this (Nat.not_lt.mpr (Nat.le_add_right _ _)))
  exact wpC_mono (h cd h₀ tk B1 (Fz.le_put _ nI)) (fun _ _ q => q) fun _ _ q => q
/-- a comprehension that a name takes at once -/
theorem lc_use {elt target iter : Expr} {scope : Scope} {pos py ps : Pos} {y : Str} {cl : List (Str × Addr)} {Q : Flow → Shared → Prop} (hsw : swapsWith (.ListComp elt [⟨target, iter, [], 0⟩] scope pos) (some (.Name y py)) ps.line env = pure true) (hclo : closureFor scope env = pure cl) (hs : ∀ x, foldedSetIterable iter env x = pure x) (hkind : scope.kind = .function)
    (hnames : ∀ x ∈ scope.names, x.2 = .local → scope.names.lookup x.1 = some .local)
    (h : wpAny (model prog w) A (eval iter env) (fun x s₁ => wpAny (model prog w) A (pyIter x) (fun it s₂ => wpAny (model prog w) A (newList []) (fun acc s₃ =>
      wpAny (model prog w) A (newFunctionEnv scope env.globals cl [] env.qual none .none (some env)) (fun cenv s₄ =>
        codeAny (model prog w) A (.compStart (.ListComp elt [⟨target, iter, [], 0⟩] scope pos) 0 it acc { cenv with scope := relabel scope env }) (compPost (model prog w) A E (some (assign (.Name y py) env)) (fun _ s' => Q .next s') acc cenv.locals) s₄) E s₃) E s₂) E s₁) E s) :
    wpAny (model prog w) A (exec (.Assign [.Name y py] (.ListComp elt [⟨target, iter, [], 0⟩] scope pos) ps) env) Q E s := by
  rw [exec_Assign_Name_used _ _ _ _ hsw]
  refine wpAny_bind (wpAny_standAt (wpAny_bind ?_))
  show wpAny _ A (do let _ ← comprehension (.ListComp elt [⟨target, iter, [], 0⟩] scope pos) scope env _ (newList []) false (eval iter env) (some (assign (.Name y py) env))) _ _ s
  exact wpAny_bind (wpAny_mono (wpAny_comprehension_free (Q := fun _ s' => Q .next s') rfl hs hclo hkind hnames h) (fun _ s' hq => wpAny_pure (wpAny_pure hq)) fun _ _ e => e)
end
/-- what is read from the rest of a stream -/
noncomputable def rdU (r : List UInt8) : Except (Str × Nat) (UInt8 × Nat) := match r with
  | [] => .error (msg1, 0)
  | c :: _ => .ok (c, 1)
noncomputable def rdB (r : List UInt8) : Except (Str × Nat) (List UInt8 × Nat) := match r with
  | [] => .error (msg1, 0)
  | c :: r1 => if r1.length < c.toNat then .error (fmt2b c.toNat r1.length, 1 + r1.length) else .ok (r1.take c.toNat, 1 + c.toNat)
theorem rdB_ok {c : UInt8} {r : List UInt8} (h : c.toNat ≤ r.length) : rdB (c :: r) = .ok (r.take c.toNat, 1 + c.toNat) := if_neg (by omega)
theorem rdB_err {c : UInt8} {r : List UInt8} (h : r.length < c.toNat) : rdB (c :: r) = .error (fmt2b c.toNat r.length, 1 + r.length) := if_pos h
noncomputable def many {α : Type} (rd : List UInt8 → Except (Str × Nat) (α × Nat)) : Nat → List UInt8 → Except (Str × Nat) (List α × Nat)
  | 0, _ => .ok ([], 0)
  | k + 1, r => match rd r with
    | .error e => .error e
    | .ok (v, u) => match many rd k (r.drop u) with
      | .error (m, u') => .error (m, u + u')
      | .ok (vs, u') => .ok (v :: vs, u + u')
section
variable {α : Type} {rd : List UInt8 → Except (Str × Nat) (α × Nat)}
theorem many_snoc {i : Nat} {r : List UInt8} {vs : List α} {u : Nat} {v : α} {u' : Nat} (h : many rd i r = .ok (vs, u)) (h' : rd (r.drop u) = .ok (v, u')) : many rd (i + 1) r = .ok (vs ++ [v], u + u') := by
  induction i generalizing r vs u with
  | zero =>
    cases h
    show (match rd r with | .error e => _ | .ok (v, u) => _) = _
    rw [List.drop_zero] at h'
    rw [h']
    simp [many]
  | succ i ih =>
    rw [many] at h ⊢
    cases q : rd r with
    | error e => rw [q] at h; cases h
    | ok a =>
      obtain ⟨v1, u1⟩ := a
      rw [q] at h
      dsimp only at h ⊢
      cases q2 : many rd i (r.drop u1) with
      | error e => rw [q2] at h; obtain ⟨m, u2⟩ := e; cases h
      | ok b =>
        obtain ⟨vs2, u2⟩ := b
        rw [q2] at h
        cases h
        rw [ih q2 (by rw [List.drop_drop]; exact h')]
        simp [Nat.add_assoc]
theorem many_err {i : Nat} {r : List UInt8} {vs : List α} {u : Nat} {m : Str} {u' : Nat} (h : many rd i r = .ok (vs, u)) (h' : rd (r.drop u) = .error (m, u')) (n : Nat) (hn : i < n) : many rd n r = .error (m, u + u') := by
  induction i generalizing r vs u n with
  | zero =>
    cases h
    obtain ⟨n, rfl⟩ : ∃ k, n = k + 1 := ⟨n - 1, by omega⟩
    rw [List.drop_zero] at h'
    rw [many, h']
    simp
  | succ i ih =>
    obtain ⟨n, rfl⟩ : ∃ k, n = k + 1 := ⟨n - 1, by omega⟩
    rw [many] at h ⊢
    cases q : rd r with
    | error e => rw [q] at h; cases h
    | ok a =>
      obtain ⟨v1, u1⟩ := a
      rw [q] at h
      dsimp only at h ⊢
      cases q2 : many rd i (r.drop u1) with
      | error e => rw [q2] at h; obtain ⟨m, u2⟩ := e; cases h
      | ok b =>
        obtain ⟨vs2, u2⟩ := b
        rw [q2] at h
        cases h
        rw [ih q2 (by rw [List.drop_drop]; exact h') n (by omega)]
        simp [Nat.add_assoc]
end
/-- a reader, told of the rest -/
noncomputable def RdSpec {α : Type} (prog : Program) (w : World) (fa : Nat → Addr) (oct : Array UInt8) (Gb : Heap) (x p : Addr) (n : Nat) (rd : List UInt8 → Except (Str × Nat) (α × Nat)) (dat : α → Dat) : Prop :=
  ∀ (A : Around) (E : Value → Shared → Prop) (s : Shared) (Q : Value → Shared → Prop) (k : Nat) (t : Tok) (l : List Env), Rm A 6 → A.frames = some l → s.heap.FunFrames Gb l → Gb.StaysIn s.heap → (Sh.list [.int k t]).At s.heap p → k ≤ oct.size →
    (∀ v u h' tk val t', rd (oct.toList.drop k) = .ok (v, u) → k + u ≤ oct.size → (∀ b o, b ≠ p → s.heap.get? b = some o → h'.get? b = some o) → (Sh.list [.int (k + u : Nat) t']).At h' p → (∀ J, DatI J val (dat v)) → Q val { s with heap := h', toks := tk }) →
    (∀ e h' tk m u v t', rd (oct.toList.drop k) = .error (m, u) → Err Gb l .none (.type "ValueError") [.str m v] [(p, .list [.int (k + u : Nat) t'])] s.heap e h' → E (.ref e) { s with heap := h', toks := tk }) →
    wpAny (model prog w) A (call (.ref (fa n)) [.ref x]) Q E s
section
variable {prog : Program} {w : World} {K : Frag} {C x p fr : Addr} {Gt Gb : Heap} {oct : Array UInt8} {mg mb : Str → Option Value} {fa : Nat → Addr}
theorem rest_len {k : Nat} {c : UInt8} {r : List UInt8} (h : oct.toList.drop k = c :: r) : k + 1 + r.length = oct.size := by
  have := congrArg List.length h
  simp only [List.length_drop, Array.length_toList, List.length_cons] at this
  omega
theorem rd_uint1 (kf : Kf K C Gt) (T : Tops mg mb fa Gt) (hT : Gt.StaysIn Gb) (S : Stm K C Gb x p fr oct) (hpG : Gb.get? p = none) (ho : oct.size ≤ 1000000) : RdSpec prog w fa oct Gb x p 1 rdU (fun c => .int (c.toNat : Nat)) := by
  intro A E s Q k t l hR hfr hl hb hp hk hQ hE
  refine uint1_spec kf T hT S (Rm.less (k := 2) hR) hfr hl hb hp hpG hk ho ?_ ?_
  · intro b r h' tk v u hd keep hp'
    have := rest_len hd
    exact hQ b 1 _ _ _ _ (by rw [hd]; rfl) (by omega) keep hp' fun J => .int _ _
  · intro e h' tk v u hd er
    exact hE _ _ _ _ 0 _ _ (by rw [hd]; rfl) er
theorem rd_bytes1 (kf : Kf K C Gt) (T : Tops mg mb fa Gt) (hT : Gt.StaysIn Gb) (S : Stm K C Gb x p fr oct) (hpG : Gb.get? p = none) (ho : oct.size ≤ 1000000) : RdSpec prog w fa oct Gb x p 3 rdB (fun l => .bytes l.toArray) := by
  intro A E s Q k t l hR hfr hl hb hp hk hQ hE
  refine bytes1_spec kf T hT S hR hfr hl hb hp hpG hk ho ?_ ?_ ?_
  · intro c r h' tk v u hd hle keep hp'
    have := rest_len hd
    refine hQ (r.take c.toNat) (1 + c.toNat) _ _ _ u (by rw [hd, rdB_ok hle]) (by omega) keep (by rw [← Nat.add_assoc]; exact hp') fun J => .bytes _ _
  · intro e h' tk v u hd er
    exact hE _ _ _ _ 0 _ _ (by rw [hd]; rfl) er
  · intro c r e h' tk v u hd hlt er
    have er' : Err Gb l .none (.type "ValueError") [.str (fmt2b c.toNat r.length) v] [(p, .list [.int (k + (1 + r.length) : Nat) u])] s.heap e h' := by rw [← Nat.add_assoc]; exact er
    exact hE e h' tk (fmt2b c.toNat r.length) (1 + r.length) v u (by rw [hd, rdB_err hlt]) er'
end
section
variable {Gb : Heap} {fs : List Env} {cls fl : Value} {args : List Value} {mu : List (Addr × Sh)} {h h' h₀ : Heap} {x C : Addr} {mC : Str → Option Value}
/-- another frame's names are let go -/
theorem Err.but (r : Err Gb fs fl cls args mu h₀ x h) (sb : Heap.SameBut C h h') (hG : Gb.get? C = none) (hC : h.Ns C mC) (hZ : rawOf h₀ (mu.map (·.1)) C = none) (hp : ∀ p ∈ mu, p.1 ≠ C) (hfs : ∀ b ∈ fs.filterMap (·.frame), b ≠ C) : Err Gb fs fl cls args mu h₀ x h' := by
  obtain ⟨t, a, b, c, ⟨oe, vs, T, oT, ts, he, hcls, hd, h1, hnT, hTe, hT, hdT, h3⟩, f, k, km⟩ := r
  obtain ⟨oC, es, ep, hoC, hdC, _⟩ := id hC
  have kk : ∀ b, b ≠ C → h'.get? b = h.get? b := sb.2
  have nx : x ≠ C := fun q => by rw [q, hoC] at he; cases he; rw [hdC] at hd; cases hd
  have nT : T ≠ C := fun q => by rw [q, hoC] at hT; cases hT; rw [hdC] at hdT; cases hdT
  have frames : ∀ {l : List Env}, (∀ b ∈ l.filterMap (·.frame), b ≠ C) → h.FunFrames Gb l → h'.FunFrames Gb l := by
    intro l
    induction l with
    | nil => intro _ _; trivial
    | cons env rest ih =>
      rintro hn ⟨hk, ⟨L, o, hf, hnn, ho, hdd⟩, hr⟩
      refine ⟨hk, ⟨L, o, hf, hnn, (kk L (hn L (by rw [List.filterMap_cons, hf]; exact List.mem_cons_self))).trans ho, hdd⟩, ih (fun b hb => hn b ?_) hr⟩
      rw [List.filterMap_cons, hf]; exact List.mem_cons_of_mem _ hb
  refine ⟨t, fun b o q => (kk b fun r => by rw [r, hG] at q; cases q).trans (a b o q), b, frames hfs c, ⟨oe, vs, T, oT, ts, (kk x nx).trans he, hcls, hd, h1, hnT, hTe, (kk T nT).trans hT, hdT, h3⟩, ?_, ?_, ?_⟩
  · obtain ⟨o, n, ho, hc, hdd⟩ := f
    exact ⟨o, n, (kk t fun q => by rw [q, hoC] at ho; cases ho; rw [hdC] at hdd; cases hdd).trans ho, hc, hdd⟩
  · intro b sh hb ha
    refine (k b sh hb ha).keep fun o q => (kk b fun r => ?_).trans q
    obtain ⟨o', ho', is⟩ := ha
    rw [r] at ho' hb
    rw [rawOf_some hb ho' is.nf] at hZ; cases hZ
  · exact fun p hp' => (km p hp').keep fun o q => (kk _ (hp p hp')).trans q
end
section
variable {prog : Program} {w : World} {A : Around} {E : Value → Shared → Prop} {s : Shared} {x p : Addr} {Gt Gb h₀ : Heap} {oct : Array UInt8} {fa : Nat → Addr} {l : List Env} {env : Env} {I I0 I1 : Fz} {L : Addr} {m : Str → Option Value}
/-- a comprehension whose item is read from a stream -/
theorem comp_read {α : Type} {rd : List UInt8 → Except (Str × Nat) (α × Nat)} {dat : α → Dat} {n : Nat} {elt iter : Expr} {xk : Str} {px : Pos} {scope : Scope} {pos : Pos} {cl : List (Str × Addr)} {N : Int} {t tN : Tok} {k : Nat} {use : Option (Value → Sem Unit)} {Q : Value → Shared → Prop}
    (hrd : RdSpec prog w fa oct Gb x p n rd dat) (hR : Rm A 6) (hfr : A.frames = some (env :: l)) (hl : h₀.FunFrames Gb l) (hf : env.frame = some L) (hke : env.scope.kind = .function)
    (B : Bd ⟨Gb, I0⟩ ⟨rawOf h₀ [p], I1, Gt⟩ I L m [(p, .list [.int k t])] s.heap) (hk : k ≤ oct.size) (hN : N ≤ 100000 ∧ -100000 ≤ N) (hcell : ∀ x ∈ scope.names, x.2 ≠ .cell) (hkind : scope.kind = .function)
    (hst : ∀ C, (compEnvC scope cl C env).kindOf xk = some .local) (hsk : ((relabel scope env).kind == .class || ((relabel scope env).kind == .module)) = false)
    (helt : ∀ C m' mu' g' J s' Q' E', Bd g' ⟨rawOf h₀ [p], I1, Gt⟩ J C m' mu' s'.heap → I.le J → wpAny (model prog w) A (call (.ref (fa n)) [.ref x]) Q' E' s' → wpAny (model prog w) A (eval elt (compEnvC scope cl C env)) Q' E' s')
    (done : ∀ J C D mC ys h tk vs u t', many rd N.toNat (oct.toList.drop k) = .ok (vs, u) → k + u ≤ oct.size → Bd ⟨Gb, I0⟩ ⟨rawOf h₀ [p], I1, Gt⟩ J L m [(p, .list [.int (k + u : Nat) t'])] h → I.le J → DatIs J ys (vs.map dat) → h.Ns C mC → (Sh.list ys).At h D → C ≠ D →
      Off ⟨Gb, I0⟩ ⟨rawOf h₀ [p], I1, Gt⟩ J L [(p, .list [.int (k + u : Nat) t'])] C → Off ⟨Gb, I0⟩ ⟨rawOf h₀ [p], I1, Gt⟩ J L [(p, .list [.int (k + u : Nat) t'])] D → compPost (model prog w) A E use Q (.ref D) C (.ok .next) { s with heap := h, toks := tk })
    (err : ∀ fl e h' tk m u v t', many rd N.toNat (oct.toList.drop k) = .error (m, u) → Err Gb (env :: l) fl (.type "ValueError") [.str m v] [(p, .list [.int (k + u : Nat) t'])] h₀ e h' → E (.ref e) { s with heap := h', toks := tk }) :
    wpAny (model prog w) A (call (.type "range") [.int N tN]) (fun xv s₁ => wpAny (model prog w) A (pyIter xv) (fun it s₂ => wpAny (model prog w) A (newList []) (fun acc s₃ => wpAny (model prog w) A (newFunctionEnv scope env.globals cl [] env.qual none .none (some env)) (fun cenv s₄ =>
      codeAny (model prog w) A (.compStart (.ListComp elt [⟨.Name xk px, iter, [], 0⟩] scope pos) 0 it acc { cenv with scope := relabel scope env }) (compPost (model prog w) A E use Q acc cenv.locals) s₄) E s₃) E s₂) E s₁) E s := by
  refine comp_range (RR := fun acc C r s' => compPost (model prog w) A E use Q acc C r s') (fun i J mu' ys => ∃ vs u t', many rd i (oct.toList.drop k) = .ok (vs, u) ∧ k + u ≤ oct.size ∧ mu' = [(p, .list [.int (k + u : Nat) t'])] ∧ DatIs J ys (vs.map dat)) hR.hd B hN
    ⟨[], 0, t, rfl, hk, rfl, .nil⟩ hcell hkind ?_ ?_
  · rintro i u g' J C D m' mu' ys h tk hi ov B' hJ ⟨vs, uu, t', hm, hku, rfl, hys⟩ hlen nL
    have hGb : Gb.StaysIn g'.h := ov.st
    have hL : h.Ns L m := nL.keeps B'.base
    have hLC : L ≠ C := fun q => by obtain ⟨o, _, _, ho, _⟩ := nL; rw [q, B'.gL] at ho; cases ho
    refine wpAny_assign_Name (wpAny_storeName_local (hst C) B'.ns (fun h₁ hn₁ hs₁ => ?_) (by
      show ((relabel scope env).kind == .class || ((relabel scope env).kind == .module && _)) = false
      rw [Bool.or_eq_false_iff] at hsk
      rw [hsk.1, hsk.2]; rfl))
    have B₁ := B'.store hn₁ hs₁
    have hG1 : Gb.StaysIn h₁ := fun b o q => B₁.base b o (hGb b o q)
    have hGL : Gb.get? L = none := B.gL
    have hL1 : h₁.Ns L m := hL.at' fun o q => (hs₁.2 L hLC).trans q
    have fr1 : h₁.FunFrames Gb (env :: l) := Heap.FunFrames.cons (by rw [hke]; decide) hf hL1 hGL (B₁.frames rfl hl)
    have pAt := (B₁.mus _ (List.Mem.head _)).1
    refine helt C _ _ g' J _ _ _ B₁ hJ (hrd A _ _ _ (k + uu) t' (env :: l) hR hfr fr1 hG1 pAt hku ?_ ?_)
    · intro v u' h' tk' val t2 hv hle keep hp' hval
      have B₂ := B₁.upd (pre := []) (post := []) rfl keep hp'
      refine ⟨J, _, _, _, _, rfl, B₂, vs ++ [v], uu + u', t2, many_snoc hm (by rw [List.drop_drop]; exact hv), by omega, by rw [← Nat.add_assoc]; rfl, ?_⟩
      rw [List.map_append]
      exact hys.append (.one (hval J))
    · intro e h' tk' ms u' v t2 hv er
      have hm' : many rd N.toNat (oct.toList.drop k) = .error (ms, uu + u') := many_err hm (by rw [List.drop_drop]; exact hv) _ hi
      have nCp : C ≠ p := fun q => (B₁.mus _ (List.Mem.head _)).2.1 q.symm
      show wpAny _ A (noteFrame (.ref e) (compEnvC scope cl C env)) _ _ _
      rw [note_same (env := env) (env' := compEnvC scope cl C env) rfl]
      refine err_note_any (L := L) hfr er (fun h₂ er₂ => ?_) hf
      have hC2 : h₂.Ns C _ := (er₂.keeps C (.ns _) (by simpa using nCp) (at_ns B₁.ns)).ns
      have er₃ : Err Gb (env :: l) (rawInt L) (.type "ValueError") [.str ms v] [(p, .list [.int (k + (uu + u') : Nat) t2])] h₀ e h₂ := by
        rw [← Nat.add_assoc]; exact er₂.from B₁.kept
      refine ⟨_, hC2, fun h₃ sb cenv _ => ?_⟩
      refine err_pass (er₃.but sb ?_ hC2 B₁.zL ?_ ?_) fun fl' h₄ er₄ => ?_
      · cases q : Gb.get? C with
        | none => rfl
        | some o => have := hGb _ _ q; rw [B₁.gL] at this; cases this
      · intro q hq; rw [List.mem_singleton.mp hq]; exact Ne.symm nCp
      · intro b hb
        rw [List.filterMap_cons, hf] at hb
        rcases List.mem_cons.mp hb with rfl | hb
        · exact hLC
        · intro q
          obtain ⟨_, o, ho, hnf⟩ := hl.mem hb
          rw [q] at ho
          have z : rawOf h₀ [p] C = none := B₁.zL
          rw [show rawOf h₀ [p] C = some (.raw o) from rawOf_some (by simpa using nCp) ho hnf] at z
          cases z
      · exact err _ _ _ _ _ _ _ _ hm' er₄
  · rintro J C D mC mu' ys h tk B' hJ ⟨vs, uu, t', hm, hku, rfl, hys⟩ hlen nC lD hCD oC oD
    exact done J C D mC ys h tk vs uu t' hm hku B' hJ hys nC lD hCD oC oD
end
section
variable {prog : Program} {w : World} {A : Around} {E : Value → Shared → Prop} {s : Shared} {Gb : Heap} {fs : List Env} {env : Env} {g : Gd} {en : Ent} {I J : Fz} {L : Addr} {m : Str → Option Value} {mu mu' : List (Addr × Sh)} {h h' h₀ : Heap} {cls fl : Value} {args : List Value} {e : Addr} {K : Frag}
theorem Err.base (r : Err Gb fs fl cls args mu h e h') : Gb.StaysIn h' := let ⟨_, a, _⟩ := r; a
theorem Err.frames (r : Err Gb fs fl cls args mu h e h') : h'.FunFrames Gb fs := let ⟨_, _, _, c, _⟩ := r; c
/-- the frame, when what a callee raised has landed -/
theorem Bd.caught (B : Bd g en I L m mu h) (r : Err g.h fs fl cls args [] h e h') : Bd g en I L m mu h' :=
  B.moved r.base (r.keeps.mono fun b q => nomatch q) rfl fun p hp => r.keeps _ _ (by simp) (B.mus p hp).1
theorem Bd.caughtX (B : Bd g en I L m mu h) (r : Err g.h fs fl cls args mu' h e h') (hm : mu'.map (·.1) = mu.map (·.1)) : Bd g en I L m mu' h' :=
  B.moved r.base (hm ▸ r.keeps) hm r.mus
theorem Err.ty {M : Model} (r : Err Gb fs fl cls args mu h e h') : Looks M h' (typeOf (.ref e)) cls := by
  obtain ⟨o, ho, hc⟩ := r.there
  exact hc ▸ (Looks.ld ho).andThen .now
theorem Err.exc (r : Err Gb fs fl cls args mu h e h') : ∃ t, ExcOf h' e cls (.ref t) ∧ h'.TupAt t args := by
  obtain ⟨oe, vs, t, a, b, c, d, f⟩ := r.first
  exact ⟨t, ⟨oe, vs, a, b, c, d⟩, f⟩
/-- a clause that does not take it -/
theorem hb_skip {c : Value} {t : Expr} {name : Option Str} {body : List Stmt} {pos : Pos} {rest : List ExceptHandler} {Q : Flow → Shared → Prop} (X : K.In s.heap) (LT : Looks (model prog w) s.heap (typeOf (.ref e)) cls) (hx : exmOne K cls c = some false)
    (ht : ∀ Q' E', Q' c s → wpAny (model prog w) (A.mark (some (.ref e))) (eval t env) Q' E' s) (h : wpAny (model prog w) A (handleBy (.ref e) env rest) Q E s) :
    wpAny (model prog w) A (handleBy (.ref e) env (.ExceptHandler (some t) name body pos :: rest)) Q E s :=
  wpAny_handleBy_cons (codeAny_handlers_test (ht _ _ ((exm_one X LT hx).here h))) (by intro q; cases q)
/-- a clause that takes it, without a name -/
theorem hb_take {c : Value} {t : Expr} {b₀ : Stmt} {body : List Stmt} {pos : Pos} {rest : List ExceptHandler} {Q : Flow → Shared → Prop} (X : K.In s.heap) (LT : Looks (model prog w) s.heap (typeOf (.ref e)) cls) (hx : exmOne K cls c = some true)
    (ht : ∀ Q' E', Q' c s → wpAny (model prog w) (A.mark (some (.ref e))) (eval t env) Q' E' s)
    (h : wpAny (model prog w) (A.mark (some (.ref e))) (setFlight (.ref e) none) (fun _ s₁ => wpAny (model prog w) (A.mark (some (.ref e))) (execs (b₀ :: body) env) Q (fun _ _ => False) s₁) (fun _ _ => False) s) :
    wpAny (model prog w) A (handleBy (.ref e) env (.ExceptHandler (some t) none (b₀ :: body) pos :: rest)) Q E s :=
  wpAny_handleBy_cons (codeAny_handlers_test (ht _ _ ((exm_one X LT hx).here (codeAny_handlers_suite (wpAny_mono h (fun _ _ q => wpAny_mono q (fun _ _ q => q) fun _ _ q => q.elim) fun _ _ q => q.elim))))) (by intro q; cases q)
/-- a clause that takes it, under a name -/
theorem hb_as {c : Value} {t : Expr} {n : Str} {b₀ : Stmt} {body : List Stmt} {pos : Pos} {rest : List ExceptHandler} {Q : Flow → Shared → Prop} (X : K.In s.heap) (LT : Looks (model prog w) s.heap (typeOf (.ref e)) cls) (hx : exmOne K cls c = some true)
    (ht : ∀ Q' E', Q' c s → wpAny (model prog w) (A.mark (some (.ref e))) (eval t env) Q' E' s)
    (h : wpAny (model prog w) (A.mark (some (.ref e))) (setFlight (.ref e) none) (fun _ s₁ => wpAny (model prog w) (A.mark (some (.ref e))) (storeName env n (.ref e)) (fun _ s₂ => wpAny (model prog w) (A.mark (some (.ref e))) (execs (b₀ :: body) env)
      (fun f s₃ => wpAny (model prog w) A (do bindName env n .none; unbindBehindTheSuite env n pos) (fun _ s₄ => Q f s₄) E s₃) (fun _ _ => False) s₂) (fun _ _ => False) s₁) (fun _ _ => False) s) :
    wpAny (model prog w) A (handleBy (.ref e) env (.ExceptHandler (some t) (some n) (b₀ :: body) pos :: rest)) Q E s :=
  wpAny_handleBy_cons (codeAny_handlers_test (ht _ _ ((exm_one X LT hx).here (codeAny_handlers_suite_as
    (wpAny_mono h (fun _ _ q => wpAny_mono q (fun _ _ q => wpAny_mono q (fun _ _ q => q) fun _ _ q => q.elim) fun _ _ q => q.elim) fun _ _ q => q.elim))))) (by intro q; cases q)
/-- the name goes -/
theorem name_goes {n : Str} {pos : Pos} {Q : Unit → Shared → Prop} {M : Model} (B : Bd g en I env.locals m mu s.heap) (h : ∀ h' m', Bd g en I env.locals m' mu h' → Q () { s with heap := h', toks := s.toks + 1 }) (hl : env.kindOf n = some .local := by rfl)
    (hp : (env.scope.kind == .class || (env.scope.kind == .module && env.locals != env.globals)) = false := by rfl) : wpAny M A (do bindName env n .none; unbindBehindTheSuite env n pos) Q E s :=
  wpAny_nameGoes hl B.ns hp fun h' m' hn hs => h h' m' (B.store hn hs)
/-- what a def that catches has left behind -/
structure Went (Gb : Heap) (l : List Env) (p : Addr) (I : Fz) (h h' : Heap) (J : Fz) : Prop where
  base : Gb.StaysIn h'
  frames : h'.FunFrames Gb l
  kept : Kept [p] h h'
  le : I.le J
  new : ∀ a sh, J a = some sh → I a = none → rawOf h [p] a = none
  np : J p = none
  sub : ∀ a sh, J a = some sh → sh.At h' a
theorem raw_clash {X : List Addr} {a : Addr} {sh : Sh} (z : rawOf h X a = none) (n : a ∉ X) (at_ : sh.At h a) : False := by
  obtain ⟨o, ho, is⟩ := at_
  rw [rawOf_some n ho is.nf] at z; cases z
theorem Bd.went {p : Addr} {l : List Env} {sh0 sh1 : Sh} {pre post : List (Addr × Sh)} (B : Bd g en I L m mu h) (W : Went g.h l p I h h' J) (hmu : mu = pre ++ (p, sh0) :: post) (hp : sh1.At h' p) : Bd g en J L m (pre ++ (p, sh1) :: post) h' := by
  have P := B.mus (p, sh0) (by simp [hmu])
  have nd := B.nd
  rw [hmu, List.map_append, List.map_cons, List.nodup_append] at nd
  have npre : ∀ q ∈ pre, q.1 ≠ p := fun q hq r => nd.2.2 q.1 (List.mem_map_of_mem hq) p List.mem_cons_self r
  have npost : ∀ q ∈ post, q.1 ≠ p := fun q hq r => (List.nodup_cons.mp nd.2.1).1 (List.mem_map.mpr ⟨q, hq, r⟩)
  have new : ∀ a sh (sh' : Sh), a ≠ p → sh'.At h a → I a = none → J a = some sh → False := fun a sh sh' n at_ hi hj => raw_clash (W.new a sh hj hi) (by simpa using n) at_
  have B' : Bd g en I L m (pre ++ (p, sh1) :: post) h' := by
    have B1 : Bd g en I L m mu h := B
    refine B1.moved W.base (W.kept.mono fun b hb => ?_) ?_ ?_
    · rw [List.mem_singleton.mp hb, hmu]; simp
    · rw [hmu]; simp
    · intro q hq
      rcases List.mem_append.mp hq with hq | hq
      · exact W.kept _ _ (by simpa using npre q hq) (B.mus q (by rw [hmu]; simp [hq])).1
      · rcases List.mem_cons.mp hq with rfl | hq
        · exact hp
        · exact W.kept _ _ (by simpa using npost q hq) (B.mus q (by rw [hmu]; simp [hq])).1
  exact { B' with
    gi := B.gi.trans W.le
    gf := fun a sh hj hg => by
      cases q : I a with
      | some sh' => exact B.gf a sh' q hg
      | none =>
        cases r : g.h.get? a with
        | none => rfl
        | some o =>
          obtain ⟨o', ho', is⟩ := W.sub a sh hj
          rw [W.base _ _ r] at ho'
          cases ho'
          exact (new a sh (.raw o) (fun z => by rw [z, P.2.2.2.1] at r; cases r) ⟨o, B.base _ _ r, is.nf, rfl, rfl, rfl⟩ q hj).elim
    ei := B.ei.trans W.le
    ef := fun a sh hj he => by
      cases q : I a with
      | some sh' => exact B.ef a sh' q he
      | none =>
        cases r : en.Z a with
        | none => rfl
        | some sh' => exact (new a sh sh' (fun z => by rw [z, P.2.2.2.2] at r; cases r) (B.kz a sh' r) q hj).elim
    sub := W.sub
    iL := by
      cases q : J L with
      | none => rfl
      | some sh => exact (new L sh _ (Ne.symm P.2.1) (at_ns B.ns) B.iL q).elim
    mus := fun q hq => by
      refine ⟨(B'.mus q hq).1, (B'.mus q hq).2.1, ?_, (B'.mus q hq).2.2.2⟩
      by_cases z : q.1 = p
      · rw [z]; exact W.np
      · have hq' : q ∈ mu := by
          rw [hmu]
          rcases List.mem_append.mp hq with hq | hq
          · simp [hq]
          · rcases List.mem_cons.mp hq with rfl | hq
            · exact (z rfl).elim
            · simp [hq]
        cases r : J q.1 with
        | none => rfl
        | some sh => exact (new q.1 sh _ z (B.mus q hq').1 (B.mus q hq').2.2.1 r).elim }
end
section
variable {prog : Program} {w : World} {A : Around} {E : Value → Shared → Prop} {s : Shared} {env : Env} {g : Gd} {e : Ent} {J : Fz} {m : Str → Option Value} {mu : List (Addr × Sh)}
/-- a comprehension's end, its list frozen and bound to a name -/
theorem comp_use {Q : Value → Shared → Prop} {C D : Addr} {mC : Str → Option Value} {ys : List Value} {h : Heap} {tk : Nat} {y : Str} {py : Pos} (B : Bd g e J env.locals m mu h) (nC : h.Ns C mC) (lD : (Sh.list ys).At h D) (hCD : C ≠ D) (oC : Off g e J env.locals mu C) (oD : Off g e J env.locals mu D)
    (hl : env.kindOf y = some .local) (hp : (env.scope.kind == .class || (env.scope.kind == .module && env.locals != env.globals)) = false)
    (k : ∀ h' J' tk', Bd g e J' env.locals (fun z => if z = y then some (.ref D) else m z) mu h' → J.le J' → J' D = some (.list ys) → Q .none { s with heap := h', toks := tk' }) : compPost (model prog w) A E (some (assign (.Name y py) env)) Q (.ref D) C (.ok .next) { s with heap := h, toks := tk } := by
  have B₀ := B.freeze lD oD.2.2.1 oD.1 oD.2.1 oD.2.2.2.1 oD.2.2.2.2
  show wpAny _ A (assign (.Name y py) env (.ref D)) _ _ _
  refine wpAny_assign_Name (wpAny_storeName_local hl B₀.ns (fun h₁ hn hs => ?_) hp)
  have B₁ := B₀.store hn hs
  have nC₁ : h₁.Ns C mC := nC.at' fun o q => (hs.2 C oC.2.2.2.1).trans q
  refine ⟨mC, nC₁, fun h' sb => ?_⟩
  have kk : ∀ b o, b ≠ C → h₁.get? b = some o → h'.get? b = some o := fun b o hb q => (sb.2 b hb).trans q
  exact k h' _ _ (B₁.moveBut oC.1 oC.2.1 ((Fz.put_ne _ _ hCD).trans oC.2.2.1) (Ne.symm oC.2.2.2.1) oC.2.2.2.2 kk) (Fz.le_put _ oD.2.2.1) (Fz.put_self _ _ _)
end
/-- one row, or the stop -/
inductive One where
  | stop (m : Str) (u : Nat)
  | row (d : Dat) (reply : Str) (u : Nat)
noncomputable def One.shift (n : Nat) : One → One
  | .stop m u => .stop m (n + u)
  | .row d rp u => .row d rp (n + u)
noncomputable def portF (n : Int) (reply before : Str) (r : List UInt8) : One :=
  if n < 0 then (match many rdB (-n).toNat r with
      | .error (m, u') => .stop m u'
      | .ok (vs, u') => .row (.list [.str reply, .tuple [.str before, .int n], .list (vs.map fun b => .list [.bytes b.toArray, .bool true])]) reply u')
    else (match many rdU n.toNat r with
      | .error (m, u') => .stop m u'
      | .ok (vs, u') => .row (.list [.str reply, .tuple [.str before, .int n], .list (vs.map fun c => .int (c.toNat : Nat))]) reply u')
theorem many_len {α : Type} {rd : List UInt8 → Except (Str × Nat) (α × Nat)} {n : Nat} {r : List UInt8} {vs : List α} {u : Nat} (h : many rd n r = .ok (vs, u)) : vs.length = n := by
  induction n generalizing r vs u with
  | zero => cases h; rfl
  | succ n ih =>
    rw [many] at h
    cases q : rd r with
    | error e => rw [q] at h; cases h
    | ok a =>
      obtain ⟨v, u1⟩ := a
      rw [q] at h
      dsimp only at h
      cases q2 : many rd n (r.drop u1) with
      | error e => rw [q2] at h; obtain ⟨m, u2⟩ := e; cases h
      | ok b =>
        obtain ⟨vs2, u2⟩ := b
        rw [q2] at h
        cases h
        rw [List.length_cons, ih q2]
section
variable {prog : Program} {w : World} {A : Around} {E : Value → Shared → Prop} {s : Shared} {K : Frag} {C x p fr Cr Cp : Addr} {Gt Gb : Heap} {oct : Array UInt8} {mg mb : Str → Option Value} {fa : Nat → Addr} {l : List Env} {I : Fz}
theorem isi_bytes {b : Array UInt8} {t : Tok} {Q : Value → Shared → Prop} (h : Q (.bool true) s) : wpAny (model prog w) A (call (.builtin "isinstance") [.bytes b t, .type "bytes"]) Q E s :=
  call_isinstance (isinstance_true (Tx := "bytes") rfl (by rw [isSubtype_type]; kernel_rfl)) ⟨rfl, h⟩
noncomputable abbrev env18 (L fo : Addr) (cd : Value) (c : Addr) : Env := envX (fnName 18) (fnScope 18) L fo cd [(Str.ofString "stream", c)]
set_option maxHeartbeats 8000000 in
theorem one_port {Q : Flow → Shared → Prop} {k : Nat} {n : Int} {t tb tr tn : Tok} {bf rp : Str} {h₀ : Heap} {I0 I1 : Fz} {m : Str → Option Value} {L c a : Addr} {cd : Value} (T : Tops mg mb fa Gt) (hU : RdSpec prog w fa oct Gb x p 1 rdU (fun c => .int (c.toNat : Nat))) (hB : RdSpec prog w fa oct Gb x p 3 rdB (fun l => .bytes l.toArray)) (hR : Rm A 9) (hfr : A.frames = some (env18 L (fa 18) cd c :: l)) (hl : h₀.FunFrames Gb l)
    (B : Bd ⟨Gb, I0⟩ ⟨rawOf h₀ [p], I1, Gt⟩ I L m [(p, .list [.int k t])] s.heap) (m1 : m "reply" = some (.str rp tr)) (m2 : m "pair" = some (.ref a)) (ha : I a = some (.tup [.str bf tb, .int n tn])) (hc : I c = some (.cell (some (.ref x)))) (hk : k ≤ oct.size) (hn : -100 ≤ n ∧ n ≤ 100)
    (hQ : ∀ v d rp' u J m' h' tk t', portF n rp bf (oct.toList.drop k) = .row d rp' u → k + u ≤ oct.size → Bd ⟨Gb, I0⟩ ⟨rawOf h₀ [p], I1, Gt⟩ J L m' [(p, .list [.int (k + u : Nat) t'])] h' → DatI J v d → Q (.ret v) { s with heap := h', toks := tk })
    (hE : ∀ fl e h' tk m u v t', portF n rp bf (oct.toList.drop k) = .stop m u → Err Gb (env18 L (fa 18) cd c :: l) fl (.type "ValueError") [.str m v] [(p, .list [.int (k + u : Nat) t'])] h₀ e h' → E (.ref e) { s with heap := h', toks := tk }) :
    wpAny (model prog w) A (execs ((fnBody 18).drop 2) (env18 L (fa 18) cd c)) Q E s := by
  with_unfolding_all show wpAny _ _ (execs (_ :: _ :: []) _) _ _ _
  repeat' (walk_at "mm")
  · have hn0 : n < 0 := by assumption
    refine lc_use (by with_unfolding_all rfl) (by with_unfolding_all rfl) (by intro _; with_unfolding_all rfl) (by with_unfolding_all rfl) (by with_unfolding_all decide) ?_
    repeat' (walk_at "mm")
    refine comp_read (rd := rdB) (dat := fun l => .bytes l.toArray) (n := 3) hB (Rm.less (k := 3) hR) hfr hl rfl rfl B hk ⟨by omega, by omega⟩ (by decide) rfl (fun C => rfl) rfl ?_ ?_ ?_
    · intro C' m' mu' g' J s' Q' E' B' hJ h
      repeat (walk_at "mm")
      refine n_fn 3 B' T ?_
      refine c_fn T (Bd.tops B') ?_
      repeat (walk_at "mm")
      · exact B'.tops
      · exact h
    · intro J C' D mC ys h tk vs u t' hm hku B' hJ hys nC lD hCD oC oD
      have hyl := hys.length
      rw [List.length_map] at hyl
      refine comp_use B' nC lD hCD oC oD rfl rfl fun h' J' tk' B'' hJ' hD => ?_
      dsimp only
      repeat' (walk_at "mm")
      have hys' := hys.mono hJ'
      have hml : vs.length ≤ 100000 := by have := many_len hm; omega
      refine comp_list (fun i J5 mu5 zs => mu5 = [(p, .list [.int (k + u : Nat) t'])] ∧ DatIs J5 zs ((vs.take i).map fun b => Dat.list [.bytes b.toArray, .bool true])) hR.hd B'' hD ⟨rfl, .nil⟩ (by rw [hyl, sizeLine_eq]; omega) (by decide) rfl let_name ?_ ?_
      · intro i v g5 J5 C5 D5 m5 mu5 zs h5 tk5 hv ov B5 hJ5 hP5 hzl nL
        refine opq2 fun Qt Et hQt hEt => ?_
        obtain ⟨rfl, hzs⟩ := hP5
        obtain ⟨d, hd, hD5⟩ := hys'.get hv
        rw [List.getElem?_map] at hd
        cases hb : vs[i]? with
        | none => rw [hb] at hd; cases hd
        | some b =>
        rw [hb] at hd
        cases hd
        cases hD5
        repeat (walk_at "mm")
        refine isi_bytes ?_
        repeat (walk_at "mm")
        rename_i a17 x17 J17 B17 l17 j17
        refine hQt _ _ ⟨J17, _, _, _, _, rfl, B17, rfl, ?_⟩
        rw [take_of hb, List.map_append]
        exact (hzs.mono l17).append (.one (.list j17 (.cons (.bytes _ _) (.cons (.bool _) .nil))))
      · rintro J5 C5 D5 mC5 mu5 zs h5 tk5 B5 hJ5 ⟨rfl, hzs⟩ hzl nC5 lD5 hCD5 oC5 oD5
        refine comp_done B5 nC5 lD5 hCD5 oC5 oD5 fun h6 J6 B6 hJ6 hD6 => ?_
        dsimp only
        rw [hyl, List.take_length] at hzs
        repeat' (walk_at "mm")
        rename_i a7 h7 J7 B7 l7 j7
        refine hQ _ _ rp u _ _ _ _ t' (by unfold portF; rw [if_pos hn0, hm]) hku B7 ?_
        exact .list j7 (.cons (.str _ _) (.cons (.tuple ((((hJ.trans hJ').trans hJ5).trans (hJ6.trans l7)) _ _ ha) (.cons (.str _ _) (.cons (.int _ _) .nil))) (.cons (.list (l7 _ _ hD6) (hzs.mono (hJ6.trans l7))) .nil)))
    · intro fl e h' tk m' u v t' hm er
      exact hE _ _ _ _ _ _ _ _ (by unfold portF; rw [if_pos hn0, hm]) er
  · have hn0 : ¬ n < 0 := by assumption
    refine comp_read (rd := rdU) (dat := fun c => .int (c.toNat : Nat)) (n := 1) hU (Rm.less (k := 3) hR) hfr hl rfl rfl B hk ⟨by omega, by omega⟩ (by decide) rfl (fun C => rfl) rfl ?_ ?_ ?_
    · intro C' m' mu' g' J s' Q' E' B' hJ h
      repeat (walk_at "mm")
      refine n_fn 1 B' T ?_
      refine c_fn T (Bd.tops B') ?_
      repeat (walk_at "mm")
      · exact B'.tops
      · exact h
    · intro J C' D mC ys h tk vs u t' hm hku B' hJ hys nC lD hCD oC oD
      refine comp_done B' nC lD hCD oC oD fun h' J' B'' hJ' hD => ?_
      dsimp only
      repeat' (walk_at "mm")
      rename_i a3 h3 J3 B3 l3 j3
      refine hQ _ _ rp u _ _ _ _ t' (by unfold portF; rw [if_neg hn0, hm]) hku B3 ?_
      exact .list j3 (.cons (.str _ _) (.cons (.tuple (((hJ.trans hJ').trans l3) _ _ ha) (.cons (.str _ _) (.cons (.int _ _) .nil))) (.cons (.list (l3 _ _ hD) (hys.mono (hJ'.trans l3))) .nil)))
    · intro fl e h' tk m' u v t' hm er
      exact hE _ _ _ _ _ _ _ _ (by unfold portF; rw [if_neg hn0, hm]) er
end
noncomputable def afterF (reply before : Str) (r : List UInt8) : One := match parseF reply with
  | .code => .row (.list [.str reply, .str (Str.ofString "another code"), .str reply]) reply 0
  | .proto => .row (.list [.str reply, .str (Str.ofString "no port"), .str reply]) reply 0
  | .bad => .row (.list [.str reply, .str (Str.ofString "no number")]) reply 0
  | .port n => portF n reply before r
noncomputable def textOf (l : List UInt8) : Str := ⟨(l.map (·.toNat)).toArray⟩
noncomputable def oneF (r : List UInt8) (before : Str) : One := match r with
  | [] => .stop msg1 0
  | c :: r1 => if r1.length < c.toNat then .stop (fmt2s c.toNat r1.length) (1 + r1.length) else (afterF (textOf (r1.take c.toNat)) before (r1.drop c.toNat)).shift (1 + c.toNat)
/-- what the parts of a reply are -/
structure Fine (x : Str) : Prop where
  bad : ∀ q ∈ partsOf x, parseF x = .bad → q.length ≤ 40 ∧ (∀ c ∈ q.cps.toList, c < 16 ^ 8) ∧ ((numSeenOf q).length == (numTextOf q).length) = true
  len : ∀ q ∈ partsOf x, q.length ≤ 640
  num : ∀ n, parseF x = .port n → -100 ≤ n ∧ n ≤ 100
/-- what the written part says of the classes of the exceptions -/
structure Ke (K : Frag) (Cr Cp : Addr) (mg : Str → Option Value) (Gt : Heap) : Prop where
  r : OwnCls (Str.ofString "error_reply") Cr bmE "Exception.__new__" mg Gt
  p : OwnCls (Str.ofString "error_proto") Cp bmE "Exception.__new__" mg Gt
  rr : exmOne K (.ref Cr) (.ref Cr) = some true
  pr : exmOne K (.ref Cp) (.ref Cr) = some false
  pp : exmOne K (.ref Cp) (.ref Cp) = some true
  vr : exmOne K (.type "ValueError") (.ref Cr) = some false
  vp : exmOne K (.type "ValueError") (.ref Cp) = some false
  vv : exmOne K (.type "ValueError") (.type "ValueError") = some true
  sr : findIn K (.ref Cr) "__str__" = some (some (.builtin "BaseException.__str__"))
  sp : findIn K (.ref Cp) "__str__" = some (some (.builtin "BaseException.__str__"))
  br : subIn K (.ref Cr) (.type "BaseException") = some true
  bp : subIn K (.ref Cp) (.type "BaseException") = some true
section
variable {prog : Program} {w : World} {A : Around} {E : Value → Shared → Prop} {s : Shared} {K : Frag} {C x p fr Cr Cp : Addr} {Gt Gb : Heap} {oct : Array UInt8} {mg mb : Str → Option Value} {fa : Nat → Addr} {l : List Env} {I : Fz}
theorem exc_same {h h' : Heap} {L e : Addr} {m : Str → Option Value} {cls a0 : Value} (y : ExcOf h e cls a0) (n : h.Ns L m) (sb : Heap.SameBut L h h') : ExcOf h' e cls a0 := by
  obtain ⟨o, vs, ho, hc, hd, h0⟩ := y
  obtain ⟨oL, es, ep, hL, hdL, _⟩ := n
  exact ⟨o, vs, (sb.2 e fun q => by rw [q, hL] at ho; cases ho; rw [hdL] at hd; cases hd).trans ho, hc, hd, h0⟩
theorem tup_same {h h' : Heap} {L t : Addr} {m : Str → Option Value} {args : List Value} (y : h.TupAt t args) (n : h.Ns L m) (sb : Heap.SameBut L h h') : h'.TupAt t args := by
  obtain ⟨o, k, ho, hc, hd⟩ := y
  obtain ⟨oL, es, ep, hL, hdL, _⟩ := n
  exact ⟨o, k, (sb.2 t fun q => by rw [q, hL] at ho; cases ho; rw [hdL] at hd; cases hd).trans ho, hc, hd⟩
set_option maxHeartbeats 8000000 in
theorem one_tail {Q : Flow → Shared → Prop} {k : Nat} {t tb tr : Tok} {bf rp : Str} {h₀ : Heap} {I0 I1 : Fz} {m : Str → Option Value} {L c : Addr} {cd : Value} (kf : Kf K C Gt) (ke : Ke K Cr Cp mg Gt) (T : Tops mg mb fa Gt) (hT : Gt.StaysIn Gb) (S : Stm K C Gb x p fr oct) (hR : Rm A 9) (hfr : A.frames = some (env18 L (fa 18) cd c :: l)) (hl : h₀.FunFrames Gb l)
    (B : Bd ⟨Gb, I0⟩ ⟨rawOf h₀ [p], I1, Gt⟩ I L m [(p, .list [.int k t])] s.heap) (hpG : Gb.get? p = none) (m1 : m "reply" = some (.str rp tr)) (m2 : m "before" = some (.str bf tb)) (hc : I c = some (.cell (some (.ref x)))) (hk : k ≤ oct.size) (ho : oct.size ≤ 1000000) (hF : Fine rp) (htl : rp.length ≤ 255)
    (hQ : ∀ v d rp' u J m' h' tk t', afterF rp bf (oct.toList.drop k) = .row d rp' u → k + u ≤ oct.size → Bd ⟨Gb, I0⟩ ⟨rawOf h₀ [p], I1, Gt⟩ J L m' [(p, .list [.int (k + u : Nat) t'])] h' → DatI J v d → Q (.ret v) { s with heap := h', toks := tk })
    (hE : ∀ fl e h' tk m u v t', afterF rp bf (oct.toList.drop k) = .stop m u → Err Gb (env18 L (fa 18) cd c :: l) fl (.type "ValueError") [.str m v] [(p, .list [.int (k + u : Nat) t'])] h₀ e h' → E (.ref e) { s with heap := h', toks := tk }) :
    wpC (model prog w) A (execs ((fnBody 18).drop 1) (env18 L (fa 18) cd c)) Q E s := by
  with_unfolding_all show wpC _ _ (execs (_ :: _ :: _ :: []) _) _ _ _
  refine execsC (tryC (execsC (assignC (calledC ?_))))
  refine n_fn 9 B T ?_
  refine c_fnC T ?_
  repeat (walk_at "mm")
  refine a_tup B fun pa h₁ J₁ B₁ hJ₁ hpa => ?_
  dsimp only
  repeat (walk_at "mm")
  · exact B₁.tops
  have hX : ∀ {h : Heap}, Gb.StaysIn h → K.In h := fun hg => kf.X.keeps fun b o q => hg b o (hT b o q)
  refine parse_spec (Cr := Cr) (Cp := Cp) T hT (Rm.less (k := 5) hR) hfr (B₁.frames' rfl (fun _ _ q => q) hl rfl rfl) B₁.base ke.r ke.p B₁.sub hpa (by omega) ?_ ?_ hF.bad hF.len ?_ ?_
  · intro hpf e h' tk v er
    dsimp only
    refine err_note_any (L := L) hfr er fun h₂ er₂ => ?_
    refine err_land er₂ fun h₃ er₃ => ?_
    have B₃ := B₁.caught er₃
    dsimp only
    refine hb_as (hX er₃.base) er₃.ty ke.rr (fun Q' E' q => ?_) ?_
    · exact Name_function_global rfl rfl (loadGlobal_global (T.g.keeps B₃.tops) ke.r.bound q) (by decide)
    refine err_land er₃ fun h₄ er₄ => ?_
    have B₄ := B₁.caught er₄
    obtain ⟨t0, x4, y4⟩ := er₄.exc
    dsimp only
    refine wpAny_storeName_local rfl B₄.ns (fun h₅ hn₅ hs₅ => ?_) rfl
    have x5 := exc_same x4 B₄.ns hs₅
    have y5 := tup_same y4 B₄.ns hs₅
    have B₅ := B₄.store hn₅ hs₅
    clear x4 y4 er₄ er₃ er₂ er B₄ B₃ hn₅ hs₅
    repeat' (walk_at "mm")
    refine str_own (hX B₅.base) ke.sr ke.br (by have := hR.un; show A.units + 2 < _; omega) x5 y5 ?_
    repeat' (walk_at "mm")
    rename Bd _ _ _ _ _ _ _ => B₆
    refine name_goes B₆ fun h₇ m₇ B₇ => ?_
    refine hQ _ _ rp 0 _ _ _ _ t (by unfold afterF; rw [hpf]) hk B₇ ?_
    exact .list (by assumption) (.cons (.str _ _) (.cons (.str _ _) (.cons (.str _ _) .nil)))
  · intro hpf e h' tk v er
    dsimp only
    refine err_note_any (L := L) hfr er fun h₂ er₂ => ?_
    refine err_land er₂ fun h₃ er₃ => ?_
    have B₃ := B₁.caught er₃
    dsimp only
    refine hb_skip (hX er₃.base) er₃.ty ke.pr (fun Q' E' q => ?_) ?_
    · exact Name_function_global rfl rfl (loadGlobal_global (T.g.keeps B₃.tops) ke.r.bound q) (by decide)
    refine hb_as (hX er₃.base) er₃.ty ke.pp (fun Q' E' q => ?_) ?_
    · exact Name_function_global rfl rfl (loadGlobal_global (T.g.keeps B₃.tops) ke.p.bound q) (by decide)
    refine err_land er₃ fun h₄ er₄ => ?_
    have B₄ := B₁.caught er₄
    obtain ⟨t0, x4, y4⟩ := er₄.exc
    dsimp only
    refine wpAny_storeName_local rfl B₄.ns (fun h₅ hn₅ hs₅ => ?_) rfl
    have x5 := exc_same x4 B₄.ns hs₅
    have y5 := tup_same y4 B₄.ns hs₅
    have B₅ := B₄.store hn₅ hs₅
    clear x4 y4 er₄ er₃ er₂ er B₄ B₃ hn₅ hs₅
    repeat' (walk_at "mm")
    refine str_own (hX B₅.base) ke.sp ke.bp (by have := hR.un; show A.units + 2 < _; omega) x5 y5 ?_
    repeat' (walk_at "mm")
    rename Bd _ _ _ _ _ _ _ => B₆
    refine name_goes B₆ fun h₇ m₇ B₇ => ?_
    refine hQ _ _ rp 0 _ _ _ _ t (by unfold afterF; rw [hpf]) hk B₇ ?_
    exact .list (by assumption) (.cons (.str _ _) (.cons (.str _ _) (.cons (.str _ _) .nil)))
  · intro hpf e h' tk m' v er
    dsimp only
    refine err_note_any (L := L) hfr er fun h₂ er₂ => ?_
    refine err_land er₂ fun h₃ er₃ => ?_
    have B₃ := B₁.caught er₃
    dsimp only
    refine hb_skip (hX er₃.base) er₃.ty ke.vr (fun Q' E' q => ?_) ?_
    · exact Name_function_global rfl rfl (loadGlobal_global (T.g.keeps B₃.tops) ke.r.bound q) (by decide)
    refine hb_skip (hX er₃.base) er₃.ty ke.vp (fun Q' E' q => ?_) ?_
    · exact Name_function_global rfl rfl (loadGlobal_global (T.g.keeps B₃.tops) ke.p.bound q) (by decide)
    refine hb_take (hX er₃.base) er₃.ty ke.vv (fun Q' E' q => ?_) ?_
    · exact n_bi B₃ T (by decide) q
    refine err_land er₃ fun h₄ er₄ => ?_
    have B₄ := B₁.caught er₄
    dsimp only
    repeat' (walk_at "mm")
    rename Bd _ _ _ _ _ _ _ => B₆
    refine hQ _ _ rp 0 _ _ _ _ t (by unfold afterF; rw [hpf]) hk B₆ ?_
    exact .list (by assumption) (.cons (.str _ _) (.cons (.str _ _) .nil))
  · intro n J a h' tk v hpf ret ha
    have B₂ := B₁.after ret
    dsimp only
    repeat' (walk_at "mm")
    rename Bd _ _ _ _ _ _ _ => B₃
    refine wpC_any ?_
    repeat' (walk_at "mm")
    refine wpC_any ?_
    show wpAny _ _ (execs ((fnBody 18).drop 2) _) _ _ _
    have hle : I.le J := hJ₁.trans ret.le
    refine one_port (n := n) (bf := bf) (rp := rp) (tr := tr) (a := a) T (rd_uint1 kf T hT S hpG ho) (rd_bytes1 kf T hT S hpG ho) hR hfr hl B₃ (by with_unfolding_all exact m1) (by with_unfolding_all rfl) ha (hle _ _ hc) hk (hF.num n hpf) ?_ ?_
    · intro v' d rp' u J' m' h'' tk' t' hpo hku B' hd
      exact hQ _ _ _ _ _ _ _ _ _ (by unfold afterF; rw [hpf]; exact hpo) hku B' hd
    · intro fl e h'' tk' m' u v' t' hpo er
      exact hE _ _ _ _ _ _ _ _ (by unfold afterF; rw [hpf]; exact hpo) er
theorem shift_row {n : Nat} {o : One} {d : Dat} {rp : Str} {u : Nat} (h : o = .row d rp u) : o.shift n = .row d rp (n + u) := by rw [h]; rfl
theorem shift_stop {n : Nat} {o : One} {m : Str} {u : Nat} (h : o = .stop m u) : o.shift n = .stop m (n + u) := by rw [h]; rfl
set_option maxHeartbeats 8000000 in
theorem one_spec {Q : Value → Shared → Prop} {k : Nat} {t tb : Tok} {bf : Str} (kf : Kf K C Gt) (ke : Ke K Cr Cp mg Gt) (T : Tops mg mb fa Gt) (hT : Gt.StaysIn Gb) (S : Stm K C Gb x p fr oct) (hR : Rm A 10) (hfr : A.frames = some l) (hl : s.heap.FunFrames Gb l) (hb : Gb.StaysIn s.heap)
    (hI : ∀ a sh, I a = some sh → sh.At s.heap a) (hp : (Sh.list [.int k t]).At s.heap p) (hpG : Gb.get? p = none) (hpI : I p = none) (hk : k ≤ oct.size) (ho : oct.size ≤ 1000000)
    (hfine : ∀ c r, oct.toList.drop k = c :: r → c.toNat ≤ r.length → Fine (textOf (r.take c.toNat)))
    (hQ : ∀ v d rp u J h' tk t', oneF (oct.toList.drop k) bf = .row d rp u → k + u ≤ oct.size → Went Gb l p I s.heap h' J → (Sh.list [.int (k + u : Nat) t']).At h' p → DatI J v d → Q v { s with heap := h', toks := tk })
    (hE : ∀ e h' tk m u v t', oneF (oct.toList.drop k) bf = .stop m u → Err Gb l .none (.type "ValueError") [.str m v] [(p, .list [.int (k + u : Nat) t'])] s.heap e h' → E (.ref e) { s with heap := h', toks := tk }) :
    wpC (model prog w) A (call (.ref (fa 18)) [.ref x, .str bf tb]) Q E s := by
  refine c_inC1 18 (x1 := Str.ofString "stream") (v1 := some (.ref x)) (Gb := Gb) (I := I) (mu := [(p, .list [.int k t])]) (binds := [("stream", .ref x), ("before", .str bf tb)]) T hT hb (by have := hR.dp; omega) hI
    (fun q hq => by rw [List.mem_singleton.mp hq]; exact ⟨hp, hpI, hpG⟩) (by simp) (fun _ _ _ _ => rfl) (fun cd h₀ tk B hIJ => ?_) (by decide) (fun k => rfl) (fun cd => rfl) (kindsX rfl) rfl rfl rfl
  have hR' := Rm.deeper (n := 9) hR (envX (fnName 18) (fnScope 18) s.heap.objs.size (fa 18) cd [(Str.ofString "stream", s.heap.objs.size + 1)])
  have hfr' := Around.frames_deeper (env := envX (fnName 18) (fnScope 18) s.heap.objs.size (fa 18) cd [(Str.ofString "stream", s.heap.objs.size + 1)]) hfr
  generalize A.deeper _ = A' at hR' hfr' ⊢
  have hc : (I.put (s.heap.objs.size + 1) (.cell (some (.ref x)))) (s.heap.objs.size + 1) = some (.cell (some (.ref x))) := Fz.put_self _ _ _
  generalize I.put (s.heap.objs.size + 1) (.cell (some (.ref x))) = I1 at B hIJ hc
  with_unfolding_all show wpC _ _ (execs (_ :: _ :: _ :: _ :: []) _) _ _ _
  refine execsA ?_
  repeat' (walk_at "mm")
  refine n_fn 2 B T ?_
  refine c_fn T (Bd.tops B) ?_
  repeat (walk_at "mm")
  · exact B.tops
  refine string1_spec kf T hT S (Rm.less (k := 3) hR') hfr' (B.frames' rfl (fun _ _ q => q) hl rfl rfl) B.base (B.mus _ (List.Mem.head _)).1 hpG hk ho ?_ ?_ ?_
  rotate_left
  · intro e h' tk v u hd er
    refine out_on hfr' (.inl rfl) (er.from B.kept) fun h₂ er₂ => ?_
    exact hE _ _ _ _ 0 _ _ (by rw [hd]; rfl) er₂
  · intro c r e h' tk v u hd hlt er
    refine out_on hfr' (.inl rfl) (er.from B.kept) fun h₂ er₂ => ?_
    have er₃ : Err Gb l .none (.type "ValueError") [.str (fmt2s c.toNat r.length) v] [(p, .list [.int (k + (1 + r.length) : Nat) u])] s.heap e h₂ := by rw [← Nat.add_assoc]; exact er₂
    exact hE _ _ _ _ (1 + r.length) _ _ (by rw [hd]; exact if_pos hlt) er₃
  intro c r h₁ tk₁ v₁ u₁ hd hle keep₁ hp₁
  have B₁ := B.upd (pre := []) (post := []) rfl keep₁ hp₁
  clear keep₁ hp₁ B
  have hF := hfine c r hd hle
  have hlen := rest_len hd
  have hone : oneF (oct.toList.drop k) bf = (afterF (textOf (r.take c.toNat)) bf (r.drop c.toNat)).shift (1 + c.toNat) := by rw [hd]; exact if_neg (by omega)
  have hrest : oct.toList.drop (k + 1 + c.toNat) = r.drop c.toNat := by rw [← List.drop_drop, ← List.drop_drop, hd]; rfl
  have htl : (textOf (r.take c.toNat)).length ≤ 255 := by
    have := c.toNat_lt
    show ((r.take c.toNat).map _).toArray.size ≤ 255
    simp only [List.size_toArray, List.length_map, List.length_take]
    omega
  change wpAny _ _ (storeName _ _ (.str (textOf (r.take c.toNat)) v₁)) _ _ _
  generalize textOf (r.take c.toNat) = rp at hF hone htl ⊢
  dsimp only [List.nil_append] at B₁ ⊢
  repeat' (walk_at "mm")
  rename Bd _ _ _ _ _ _ _ => B₂
  show wpC _ _ (execs ((fnBody 18).drop 1) _) _ _ _
  refine one_tail (bf := bf) (rp := rp) (k := k + 1 + c.toNat) kf ke T hT S hR' hfr' hl B₂ hpG (by with_unfolding_all rfl) (by with_unfolding_all rfl) hc (by omega) ho hF htl ?_ ?_
  · intro v' d rp' u J m' h' tk' t' haf hku B' hd'
    rw [hrest] at haf
    refine hQ v' d rp' (1 + c.toNat + u) J h' tk' t' (by rw [hone]; exact shift_row haf) (by omega) ?_ ?_ hd'
    · exact ⟨B'.base, B'.frames rfl hl, B'.kept, B'.gi, fun a sh q r => B'.ef a sh q r, (B'.mus _ (List.Mem.head _)).2.2.1, B'.sub⟩
    · have := (B'.mus _ (List.Mem.head _)).1
      rw [show k + (1 + c.toNat + u) = k + 1 + c.toNat + u by omega]
      exact this
  · intro fl e h' tk' m' u v' t' haf er
    rw [hrest] at haf
    refine out_any (L := s.heap.objs.size) hfr' er fun h₂ er₂ => ?_
    have er₃ : Err Gb l .none (.type "ValueError") [.str m' v'] [(p, .list [.int (k + (1 + c.toNat + u) : Nat) t'])] s.heap e h₂ := by
      rw [show k + (1 + c.toNat + u) = k + 1 + c.toNat + u by omega]; exact er₂
    exact hE _ _ _ _ (1 + c.toNat + u) _ _ (by rw [hone]; exact shift_stop haf) er₃
end
structure Kx (K : Frag) (C fi : Addr) : Prop where
  mks : makesIn K C = true
  init : findIn K (.ref C) "__init__" = some (some (.ref fi))
  fit : typeIn K (.ref fi) = some (.type "function")
  fio : ∃ o doc pm an cd ct, K.lookup fi = some o ∧ o.data = .func (fnX inDef.1 inQual inDef.2.1 inDef.2.2.1 inDef.2.2.2 [] .none .none doc pm an cd ct) ∧ codeIn K cd inQual = true
  sa : findIn K (.ref C) "__setattr__" = some (some (.builtin "object.__setattr__"))
  po : plainOver K C = true
  tv : takerIn K C (Str.ofString "value") = some none
  tr : takerIn K C (Str.ofString "read") = some none
  hd : hasDictIn K C = true
  kp : keepIn K (.ref C) = true
theorem put_data (name : Str) (h : Int) (k v : Value) {es : List DictEntry} {n : Nat} {o : Obj} (ho : o.data = .dict es.toArray n) : (Obj.putName name h k v o).data = .dict (putL name h k v es).toArray (putN name es n) := by
  obtain ⟨c, d, dt, sl⟩ := o
  cases ho
  have e := congrArg Obj.data (putName_dict name h k v es n)
  refine Eq.trans ?_ e
  unfold Obj.putName dictOf
  dsimp only
  cases nsPutIn name.cps.size name.cps.toList (fun | some e => { e with val := v } | none => ⟨h, k, v⟩) es with
  | mk es' b => cases b <;> rfl
section
variable {prog : Program} {w : World} {A : Around} {E : Value → Shared → Prop} {s : Shared} {K : Frag} {x C dx L fi : Addr} {m : Str → Option Value} {ox od : Obj} {es : List DictEntry} {n : Nat} {name : Str} {v : Value}
/-- an attribute laid down in an object's own dict -/
theorem set_attr {Q : Unit → Shared → Prop} (kx : Kx K C fi) (hns : s.heap.Ns L m) (hL : dx ≠ L) (X : K.In s.heap) (I : InstAt s.heap x ox C (some od)) (hd : ox.dict = some dx) (hod : od.data = .dict es.toArray n) (ht : takerIn K C name = some none) (hl : (getL name es).isSome = true)
    (hz : es.length ≤ 100)
    (h : ∀ h' od' k, h'.Ns L m → (∀ b o, b ≠ L → b ≠ dx → s.heap.get? b = some o → h'.get? b = some o) → h'.get? dx = some od' → od'.data = .dict (putL name (PyData.keyHash w.params name) (.str name (s.toks + 1)) v es).toArray (putN name es n) → Q () { s with heap := h', toks := k }) :
    wpAny (model prog w) A (setAttr (.ref x) name v) Q E s := by
  have hdx : s.heap.get? dx = some od := by have := I.dict; rw [hd] at this; exact this
  let all : List (Addr × Obj) := (List.range s.heap.objs.size).filterMap fun b => if b = L ∨ b = dx then none else (s.heap.get? b).map fun o => (b, o)
  have hall : ∀ p ∈ all, s.heap.get? p.1 = some p.2 ∧ p.1 ≠ L ∧ p.1 ≠ dx := by
    intro p hp
    obtain ⟨b, _, hb⟩ := List.mem_filterMap.mp hp
    split at hb
    · cases hb
    · rename_i hne
      obtain ⟨o, ho, rfl⟩ := Option.map_eq_some_iff.mp hb
      exact ⟨ho, fun q => hne (.inl q), fun q => hne (.inr q)⟩
  have hin : ∀ b o, b ≠ L → b ≠ dx → s.heap.get? b = some o → (b, o) ∈ all := fun b o h1 h2 ho =>
    List.mem_filterMap.mpr ⟨b, List.mem_range.mpr (Heap.lt_size ho), by rw [if_neg (by rintro (q | q); exact h1 q; exact h2 q), ho]; rfl⟩
  have none0 : ∀ b, ({} : Heap).get? b = none := fun b => Heap.get?_none_of_le (Nat.zero_le _)
  have F : Fr ({} : Heap) L s.heap m := ⟨hns, (fun b o q => by rw [none0] at q; cases q), Nat.zero_le _⟩
  have N : News ({} : Heap) L s.heap ([] ++ (dx, od) :: all) := fun p hp => by
    rcases List.mem_cons.mp hp with rfl | hp
    · exact ⟨hdx, hL, none0 _⟩
    · exact ⟨(hall p hp).1, (hall p hp).2.1, none0 _⟩
  have hlk : (lookIn name od).isSome = true := by
    have : lookIn name od = getL name es := by unfold lookIn getL; rw [hod]; rfl
    rw [this]; exact hl
  have hlen : (putL name (PyData.keyHash w.params name) (.str name (s.toks + 1)) v es).length ≤ 1000 := by
    have : ∀ es : List DictEntry, (putL name (PyData.keyHash w.params name) (.str name (s.toks + 1)) v es).length ≤ es.length + 1 := by
      intro es
      induction es with
      | nil => exact Nat.le_refl _
      | cons e r ih => unfold putL; split <;> simp only [List.length_cons] <;> omega
    have := this es
    omega
  refine set_plain X I kx.sa (osa_dict (s := { s with toks := s.toks + 1 }) (pre := []) (post := all) (es := putL name (PyData.keyHash w.params name) (.str name (s.toks + 1)) v es) (n := putN name es n) F N X I hd kx.po ht kx.hd hlk (fun _ q => nomatch q) (fun p hp => (hall p hp).2.2) rfl (put_data _ _ _ _ hod) hlen fun h' F' N' => ?_)
  exact h h' _ _ F'.ns (fun b o h1 h2 ho => (N' (b, o) (List.mem_cons_of_mem _ (hin b o h1 h2 ho))).1) (N' (dx, _) (List.mem_cons_self)).1 (put_data _ _ _ _ hod)
end
section
variable {g : Gd} {e : Ent} {I : Fz} {L : Addr} {m : Str → Option Value} {mu : List (Addr × Sh)} {h h' : Heap}
/-- a mutable one is changed, the frame's names kept -/
theorem Bd.updL (B : Bd g e I L m mu h) {a : Addr} {sh sh' : Sh} {pre post : List (Addr × Sh)} (hmu : mu = pre ++ (a, sh) :: post) (hn : h'.Ns L m) (hs : ∀ b o, b ≠ L → b ≠ a → h.get? b = some o → h'.get? b = some o) (ha : sh'.At h' a) : Bd g e I L m (pre ++ (a, sh') :: post) h' := by
  subst hmu
  have P := B.mus (a, sh) (by simp)
  have nd := B.nd
  rw [List.map_append, List.map_cons] at nd
  have h1 := List.nodup_append.mp nd
  have hne : ∀ p ∈ pre ++ post, p.1 ≠ a := by
    intro p hp q
    rcases List.mem_append.mp hp with hp | hp
    · exact h1.2.2 p.1 (List.mem_map_of_mem hp) a List.mem_cons_self q
    · exact (List.nodup_cons.mp h1.2.1).1 (q ▸ List.mem_map_of_mem (f := (·.1)) hp)
  exact { B with
    base := fun b o q => hs b o (fun r => by rw [r, B.gL] at q; cases q) (fun r => by rw [r, P.2.2.2.1] at q; cases q) (B.base b o q)
    kz := fun b sh q => (B.kz b sh q).keep fun o => hs b o (fun r => by rw [r, B.zL] at q; cases q) (fun r => by rw [r, P.2.2.2.2] at q; cases q)
    sub := fun b sh q => (B.sub b sh q).keep fun o => hs b o (fun r => by rw [r, B.iL] at q; cases q) (fun r => by rw [r, P.2.2.1] at q; cases q)
    ns := hn
    mus := fun p hp => by
      rcases List.mem_append.mp hp with hp | hp
      · have Q := B.mus p (List.mem_append_left _ hp)
        exact ⟨Q.1.keep fun o => hs _ o Q.2.1 (hne p (List.mem_append_left _ hp)), Q.2⟩
      · rcases List.mem_cons.mp hp with rfl | hp
        · exact ⟨ha, P.2⟩
        · have Q := B.mus p (List.mem_append_right _ (List.mem_cons_of_mem _ hp))
          exact ⟨Q.1.keep fun o => hs _ o Q.2.1 (hne p (List.mem_append_right _ hp)), Q.2⟩
    nd := by rw [List.map_append, List.map_cons]; exact nd }
end
/-- the table of the codes made in a def: bare, or with the one code -/
noncomputable def Tab (h : Heap) (P : Addr) (pos : Pos) (qual : Str) : Prop := h.get? P = some (tabObj #[]) ∨ ∃ c', h.get? P = some (tabObj #[rawInt pos.line, rawInt pos.col, .ref c']) ∧ h.CodeRec (.ref c') qual
theorem Tab.keeps {h h' : Heap} {P : Addr} {pos : Pos} {qual : Str} (t : Tab h P pos qual) (k : h.StaysIn h') : Tab h' P pos qual := by
  rcases t with t | ⟨c, t, r⟩
  · exact .inl (k _ _ t)
  · exact .inr ⟨c, k _ _ t, r.keeps k⟩
theorem Tab.rec {h : Heap} {P : Addr} {pos : Pos} {qual : Str} (t : Tab h P pos qual) : ∃ o vs, h.get? P = some o ∧ o.data = .fields vs := by
  rcases t with t | ⟨c, t, r⟩ <;> exact ⟨_, _, t, rfl⟩
section
variable {prog : Program} {w : World} {A : Around} {E : Value → Shared → Prop} {s : Shared} {mg mb : Str → Option Value} {fa : Nat → Addr} {g : Gd} {e : Ent} {I : Fz} {L c P : Addr} {m : Str → Option Value} {mu : List (Addr × Sh)} {name qual : Str} {params : Arguments} {body : List Stmt} {scope : Scope} {env : Env} {pos : Pos} {line : Nat} {clos : List (Str × Addr)}
/-- a function made in a body -/
theorem mk_fn {Q : Value → Shared → Prop} (T : Tops mg mb fa e.top) (hbt : e.top.BuiltinsAt mg P) (C : CodeHd e.top c P) (B : Bd g e I L m mu s.heap) (hgP : g.h.get? P = none) (tab : Tab s.heap P pos qual) (hcl : closureFor scope env = pure clos) (hge0 : env.globals = mainGlobals) (hcode : env.code = .ref c)
    (h : ∀ f cd ct doc pm h' J tk, Bd g e J L m mu h' → I.le J → J f = some (.fn (fnX name qual params body scope clos .none .none doc pm none cd ct)) → h'.CodeRec cd qual → Tab h' P pos qual → Q (.ref f) { s with heap := h', toks := tk }) :
    wpAny (model prog w) A (makeFunction name qual params (.stmts body) scope env [] [] [] pos line) Q E s := by
  obtain ⟨aL, aM, aI, aZ⟩ := B.apart tab.rec
  have hg := T.g.keeps B.tops
  rcases tab with t | ⟨c', t, r⟩
  · have hgP' : mainGlobals ≠ P := fun q => by
      obtain ⟨o, es, ep, e, hd, _⟩ := hg
      rw [q, t] at e; cases e; cases hd
    refine makeFunction_K (ps := #[]) hcl hge0 hg hcode (C.keeps B.tops) t trivial rfl hgP' (hbt.keeps B.tops) fun c' ctv doc h' tk hx hge hlt hrec htab => ?_
    have B' : Bd g e I L m mu h' := B.moveBut hgP aZ aI aL aM fun b o hb => hx b o hb
    have k : h'.StaysIn (h'.push (fnMade name qual params body scope clos doc ((mg "__name__").getD .none) c' ctv)) := fun b o q => Heap.get?_push_of_some _ q
    exact h _ _ _ _ _ _ _ _ (B'.alloc (sh := .fn (fnX name qual params body scope clos .none .none doc ((mg "__name__").getD .none) none (.ref c') ctv)) ⟨rfl, rfl⟩ rfl) (Fz.le_put _ (B'.none_of (fresh _))) (Fz.put_self _ _ _) (hrec.keeps k) (.inr ⟨c', k _ _ htab, hrec.keeps k⟩)
  · refine makeFunction_hit (ps := #[rawInt pos.line, rawInt pos.col, .ref c']) (cv := .ref c') hcl hge0 hg hcode (C.keeps B.tops) t (by simp [TriplesOk, rawInt]) (by simp [codeAmong, rawInt]) (hbt.keeps B.tops) fun ctv doc h' tk hx _ => ?_
    have B' : Bd g e I L m mu h' := B.keep hx
    have k : ∀ o, h'.StaysIn (h'.push o) := fun o b _ q => Heap.get?_push_of_some _ q
    have r' : h'.CodeRec (.ref c') qual := r.keeps hx
    exact h _ _ _ _ _ _ _ _ (B'.alloc (sh := .fn (fnX name qual params body scope clos .none .none doc ((mg "__name__").getD .none) none (.ref c') ctv)) ⟨rfl, rfl⟩ rfl) (Fz.le_put _ (B'.none_of (fresh _))) (Fz.put_self _ _ _) (r'.keeps (k _)) (.inr ⟨c', k _ _ _ (hx _ _ t), r'.keeps (k _)⟩)
end
section
variable {prog : Program} {w : World} {A : Around} {E : Value → Shared → Prop} {s : Shared} {K : Frag} {x C dx fi : Addr} {Gt : Heap} {od : Obj} {n : Nat}
theorem init_spec {R : Result → Shared → Prop} (kx : Kx K C fi) (X : K.In Gt) (hlim : Gt.NoLimit) (hG : Gt.StaysIn s.heap) (hR : A.depth < recursionLimit) (hx : s.heap.get? x = some (instObj C dx)) (hd : s.heap.get? dx = some od) (hod : od.data = .dict ([] : List DictEntry).toArray n) (hne : Gt.get? dx = none)
    (h : ∀ h' od' tk es n', (∀ b o, b ≠ dx → s.heap.get? b = some o → h'.get? b = some o) → h'.get? dx = some od' → od'.data = .dict es.toArray n' → es.length ≤ 10 → getL (Str.ofString "read") es = some none → R (.ok (.ret .none)) { s with heap := h', toks := tk }) :
    codeAny (model prog w) A (.call (.ref fi) ⟨[.ref x, .none], []⟩) R s := by
  obtain ⟨o, doc, pm, an, cd, ct, ho, hdat, hcd⟩ := kx.fio
  refine codeAny_call_def (fd := fnX inDef.1 inQual inDef.2.1 inDef.2.2.1 inDef.2.2.2 [] .none .none doc pm an cd ct) (binds := [("self", .ref x), ("value", .none)]) hR (hG _ _ (X _ _ ho)) hdat (hlim.keeps hG) (codeRec_of (X.keeps hG) hcd) rfl (BindsTo.of_eq rfl) (show ∀ x ∈ inDef.2.2.2.names, x.2 ≠ .cell by decide) (locs rfl) (fun h₀ hns hk₀ => ?_) rfl rfl rfl
  have hid : Gt.StaysIn (hideAll s.heap [dx]) := fun b o q => hideAll_get _ (hG b o q) fun r => by rw [List.mem_singleton.mp r, hne] at q; cases q
  have nf : NF od := fun vs q => by rw [hod] at q; cases q
  have B := Bd.enterX (s := s) (Gt := Gt) (Gb := hideAll s.heap [dx]) (I := Fz.nil) (mu := [(dx, .raw od)]) hid (fun b o q => of_hideAll _ q) (fun _ _ q => by cases q) (fun q hq => by rw [List.mem_singleton.mp hq]; exact ⟨⟨od, hd, nf, rfl, rfl, rfl⟩, rfl, hideAll_none _ (List.mem_singleton.mpr rfl)⟩) (by simp) hns hk₀
  have hxd : x ≠ dx := fun q => by rw [q, hd] at hx; cases hx; cases hod
  have hx0 := hk₀ _ _ hx
  have hd0 := hk₀ _ _ hd
  with_unfolding_all show wpAny _ _ (execs (_ :: []) _) _ _ _
  repeat' (walk_at "mm")
  have hdL : dx ≠ s.heap.objs.size := Nat.ne_of_lt (Heap.lt_size hd)
  refine set_attr (L := s.heap.objs.size) (dx := dx) (od := od) (es := []) (n := n) kx hns hdL (X.keeps fun b o q => hk₀ _ _ (hG _ _ q)) ⟨hx0, rfl, rfl, hd0⟩ rfl hod kx.tv rfl (by decide) fun h' od' k hn hs hd' hdata => ?_
  dsimp only
  repeat' (walk_at "mm")
  exact h _ od' _ _ _ (fun b o hb q => hs b o (Nat.ne_of_lt (Heap.lt_size q)) hb (hk₀ b o q)) hd' hdata (show 1 ≤ 10 by decide) (by with_unfolding_all rfl)
/-- an object of the class, its frame looking on -/
theorem make_spec {Q : Value → Shared → Prop} {g : Gd} {e : Ent} {I : Fz} {L : Addr} {m : Str → Option Value} {mu : List (Addr × Sh)} (kx : Kx K C fi) (X : K.In e.top) (hlim : e.top.NoLimit) (hR : Rm A 3) (B : Bd g e I L m mu s.heap)
    (h : ∀ x dx h' od' tk es n' J, Bd g e J L m ((dx, .raw od') :: mu) h' → I.le J → J x = some (.inst C dx) → od'.data = .dict es.toArray n' → es.length ≤ 10 → getL (Str.ofString "read") es = some none → s.heap.get? x = none → s.heap.get? dx = none → Q (.ref x) { s with heap := h', toks := tk }) :
    wpAny (model prog w) A (call (.ref C) [.none]) Q E s := by
  obtain ⟨hh, gg, dd, tt, os⟩ := s
  have Xs := X.keeps B.tops
  refine wpAny_call (make_core (makes_of Xs kx.mks) (looks_findIn Xs kx.init) (fun self => bind_fn Xs self kx.fit) (.inl rfl) ?_)
  have k1 : hh.StaysIn ((hh.push emptyDict).push (instObj C hh.objs.size)) := fun b o q => Heap.get?_push_of_some _ (Heap.get?_push_of_some _ q)
  have hx : ((hh.push emptyDict).push (instObj C hh.objs.size)).get? (hh.objs.size + 1) = some (instObj C hh.objs.size) := by heap_get
  have hd : ((hh.push emptyDict).push (instObj C hh.objs.size)).get? hh.objs.size = some emptyDict := by heap_get
  have f0 : hh.get? hh.objs.size = none := fresh hh
  have f1 : hh.get? (hh.objs.size + 1) = none := Heap.get?_none_of_le (Nat.le_succ _)
  have nt : e.top.get? hh.objs.size = none := by
    cases q : e.top.get? hh.objs.size with
    | none => rfl
    | some o => rw [B.tops _ _ q] at f0; cases f0
  refine init_spec (dx := hh.objs.size) (od := emptyDict) (n := 0) kx X hlim (fun b o q => k1 _ _ (B.tops _ _ q)) ?_ hx hd rfl nt ?_
  · have := hR.dp
    have e : (Code.builtin "type.__call__" ⟨[.ref C, .none], []⟩).weight = 1 := rfl
    show A.depth + (Code.builtin "type.__call__" ⟨[.ref C, .none], []⟩).weight < recursionLimit
    omega
  intro h' od' tk es n' keep hd' hdata hlen hget
  refine ⟨rfl, ?_⟩
  have nf : NF od' := fun vs q => by rw [hdata] at q; cases q
  have B1 := B.keep (h' := h') fun b o q => keep b o (Nat.ne_of_lt (Heap.lt_size q)) (k1 b o q)
  have hx' : (Sh.inst C hh.objs.size).At h' (hh.objs.size + 1) := ⟨_, keep _ _ (Nat.ne_of_gt (Nat.lt_succ_self _)) hx, rfl, rfl, rfl⟩
  have B2 := B1.freeze hx' (B.none_of f1) (B.g_of f1) (B.z_of f1) (B.L_of f1) (B.mu_of f1)
  have hdx : (Sh.raw od').At h' hh.objs.size := ⟨od', hd', nf, rfl, rfl, rfl⟩
  have B3 := B2.hold hdx ((Fz.put_ne _ _ (Nat.ne_of_lt (Nat.lt_succ_self _))).trans (B.none_of f0)) (B.g_of f0) (B.z_of f0) (B.L_of f0) (B.mu_of f0)
  exact h _ _ _ _ _ _ _ _ B3 (Fz.le_put _ (B.none_of f1)) (Fz.put_self _ _ _) hdata hlen hget f1 f0
end
section
variable {g : Gd} {e : Ent} {I : Fz} {L : Addr} {m : Str → Option Value} {mu : List (Addr × Sh)} {h : Heap}
theorem Bd.under_fields (B : Bd g e I L m mu h) {b : Addr} {o : Obj} {vs : Array Value} (ho : h.get? b = some o) (hd : o.data = .fields vs) : (under h L mu).get? b = some o :=
  let ⟨a1, a2, _⟩ := B.apart ⟨o, vs, ho, hd⟩; under_get ho (Ne.symm a1) a2
theorem Bd.under_code (B : Bd g e I L m mu h) {cd : Value} {q : Str} (r : h.CodeRec cd q) : (under h L mu).CodeRec cd q :=
  let ⟨c, oc, vs, tq, a, b, d, f⟩ := r; ⟨c, oc, vs, tq, a, B.under_fields b d, d, f⟩
theorem Bd.under_tab (B : Bd g e I L m mu h) {P : Addr} {pos : Pos} {q : Str} (t : Tab h P pos q) : Tab (under h L mu) P pos q := by
  rcases t with t | ⟨c, t, r⟩
  · exact .inl (B.under_fields t rfl)
  · exact .inr ⟨c, B.under_fields t rfl, B.under_code r⟩
end
theorem get_put (name : Str) (h : Int) (k v : Value) (es : List DictEntry) (hk : k.isStr name = true) : getL name (putL name h k v es) = some (some v) := by
  induction es with
  | nil => unfold putL getL; simp [List.find?, hk]
  | cons e r ih =>
    unfold putL
    split
    · rename_i q; unfold getL; simp [List.find?, q]
    · rename_i q
      have q' : e.key.isStr name = false := by simpa using q
      unfold getL at ih ⊢
      rw [List.find?_cons, q']
      dsimp only
      cases hf : List.find? (fun x => x.key.isStr name) (putL name h k v r) with
      | some e' => rw [hf] at ih; exact ih
      | none => rw [hf] at ih; dsimp only at ih; split at ih <;> cases ih
/-- where the function in the stream's def stands -/
noncomputable def rdPos : Pos := match (fnBody 11 : List Stmt)[(1 : Nat)]? with | some (.FunctionDef _ _ _ _ _ _ _ _ _ p) => p | _ => default
/-- what is known of the stream's def, beyond the other defs -/
structure Ks (mg : Str → Option Value) (fa : Nat → Addr) (C c P : Addr) (Gt : Heap) : Prop where
  fn : ∃ o doc pm an, Gt.get? (fa 11) = some o ∧ o.data = .func (fnX (fnName 11) (fnName 11) (fnParams 11) (fnBody 11) (fnScope 11) [] .none .none doc pm an (.ref c) .none) ∧ Gt.CodeRec (.ref c) (fnName 11)
  code : CodeHd Gt c P
  bt : Gt.BuiltinsAt mg P
  cls : mg (Str.ofString "_Example") = some (.ref C)
  pn : Gt.get? P = none
section
variable {prog : Program} {w : World} {A : Around} {E : Value → Shared → Prop} {s : Shared} {K : Frag} {C fi c P : Addr} {Gt : Heap} {oct : Array UInt8} {mg mb : Str → Option Value} {fa : Nat → Addr}
noncomputable abbrev env11 (L fo c : Addr) : Env := envX (fnName 11) (fnScope 11) L fo (.ref c) [(Str.ofString "place", L + 2), (Str.ofString "octets", L + 1)]
theorem c_in11 {Q : Value → Shared → Prop} {t : Tok} (T : Tops mg mb fa Gt) (ks : Ks mg fa C c P Gt) (hG : Gt.StaysIn s.heap) (hR : A.depth < recursionLimit)
    (h : ∀ h₀ tk, Bd ⟨s.heap, Fz.nil⟩ ⟨Fz.nil, Fz.nil, Gt⟩ Fz.nil s.heap.objs.size (fun _ => none) [(s.heap.objs.size + 1, .cell (some (.bytes oct t))), (s.heap.objs.size + 2, .cell none)] h₀ → (∀ b o, s.heap.get? b = some o → h₀.get? b = some o) →
      wpAny (model prog w) (A.deeper (env11 s.heap.objs.size (fa 11) c)) (execs (fnBody 11) (env11 s.heap.objs.size (fa 11) c)) (fun f s' => Q (match f with | .ret v => v | _ => .none) s') (fun _ _ => False) { s with heap := h₀, toks := tk }) :
    wpAny (model prog w) A (call (.ref (fa 11)) [.bytes oct t]) Q E s := by
  obtain ⟨o, doc, pm, an, h1, h2, h3⟩ := ks.fn
  refine wpAny_call (codeAny_call_cells (fd := fnX (fnName 11) (fnName 11) (fnParams 11) (fnBody 11) (fnScope 11) [] .none .none doc pm an (.ref c) .none) (binds := [("octets", .bytes oct t)]) hR (hG _ _ h1) h2 (T.nolimit.keeps hG) (h3.keeps hG) rfl rfl rfl (kindsX rfl _) (fun s₁ x => ?_) rfl rfl rfl)
  have he : callEnvC (fnX (fnName 11) (fnName 11) (fnParams 11) (fnBody 11) (fnScope 11) [] .none .none doc pm an (.ref c) .none) s.heap.objs.size (fa 11) = env11 s.heap.objs.size (fa 11) c := rfl
  rw [he] at x ⊢
  obtain ⟨h₀, tk, rfl⟩ := x.toInCall.same
  have c1 : h₀.IsCell (s.heap.objs.size + 1) (some (.bytes oct t)) := x.cell (Str.ofString "octets") _ (by with_unfolding_all rfl)
  have c2 : h₀.IsCell (s.heap.objs.size + 2) none := x.cell (Str.ofString "place") _ (by with_unfolding_all rfl)
  have B := Bd.enter (I := Fz.nil) hG (fun _ _ q => by cases q) x.toInCall.ns x.toInCall.keep
  have off : ∀ k, s.heap.get? (s.heap.objs.size + k) = none := fun k => Heap.get?_none_of_le (Nat.le_add_right _ _)
  have B2 := B.hold (at_cell c2) rfl (off 2) rfl (Nat.ne_of_gt (Nat.lt_add_of_pos_right (by decide))) (fun _ hp => nomatch hp)
  have B1 := B2.hold (at_cell c1) rfl (off 1) rfl (Nat.ne_of_gt (Nat.lt_add_of_pos_right (by decide))) (fun p hp => by cases List.mem_singleton.mp hp; exact Nat.ne_of_gt (Nat.lt_succ_self _))
  exact wpAny_mono (h h₀ tk B1 x.toInCall.keep) (fun _ _ q => q) fun _ _ q => q.elim
set_option maxHeartbeats 4000000 in
theorem stream_spec {Q : Value → Shared → Prop} {t : Tok} (kf : Kf K C Gt) (kx : Kx K C fi) (T : Tops mg mb fa Gt) (ks : Ks mg fa C c P Gt) (hG : Gt.StaysIn s.heap) (hR : Rm A 5) (tab : Tab s.heap P rdPos rdQual)
    (hQ : ∀ a x p fr h' tk t0, (hideAll s.heap [P]).StaysIn h' → Tab h' P rdPos rdQual → (Sh.list [.ref x, .ref p]).At h' a → (Sh.list [.int (0 : Nat) t0]).At h' p → s.heap.get? p = none →
      (∀ X : List Addr, (∀ b ∈ X, ∃ sh : Sh, sh.At s.heap b) → Stm K C (hideAll h' (p :: X)) x p fr oct) → Q (.ref a) { s with heap := h', toks := tk }) :
    wpAny (model prog w) A (call (.ref (fa 11)) [.bytes oct t]) Q E s := by
  refine c_in11 T ks hG (by have := hR.dp; omega) fun h₀ tk B hk₀ => ?_
  have hR' := Rm.deeper (n := 4) hR (env11 s.heap.objs.size (fa 11) c)
  generalize A.deeper _ = A' at hR' ⊢
  generalize hLe : s.heap.objs.size = L at B ⊢
  with_unfolding_all show wpAny _ _ (execs (_ :: _ :: _ :: _ :: _ :: []) _) _ _ _
  have B0 : True → _ := fun _ => B
  clear B
  repeat' (walk_at "mm")
  have B := B0 trivial
  clear B0
  refine a_listM B (fun p h1 B1 => ?_) (by size_fits)
  dsimp only
  refine s_cell (c := L + 2) (pre := [(p, .list [.int (0 : Nat) _]), (L + 1, .cell (some (.bytes oct t)))]) (post := []) B1 (by with_unfolding_all rfl) rfl fun h2 B2 => ?_
  dsimp only [List.cons_append, List.nil_append] at B2 ⊢
  have tab2 : Tab h2 P rdPos rdQual := tab.keeps B2.base
  have hid : Gt.StaysIn (hideAll s.heap [P]) := fun b o q => hideAll_get _ (hG b o q) fun r => by rw [List.mem_singleton.mp r, ks.pn] at q; cases q
  have pfresh : s.heap.get? p = none := (B2.mus _ (List.Mem.head _)).2.2.2.1
  have B2' := Bd.back (g := ⟨hideAll s.heap [P], Fz.nil⟩) B2 hid (fun b o q => of_hideAll _ q) (Fz.le.refl _) (fun _ _ q => by cases q)
  clear B2 B1 B
  refine wpAny_execs_cons ?_
  refine nestDef_K rfl rfl rfl ?_
  refine mk_fn (mg := mg) T ks.bt ks.code B2' (hideAll_none _ (List.mem_singleton.mpr rfl)) tab2 (by with_unfolding_all rfl) rfl rfl fun f cd ct doc pm h3 J3 tk3 B3 l3 j3 rec3 tab3 => ?_
  have st3 := B3.stays
  have ffresh := B3.gf f _ j3 rfl
  have B4 := B3.turn
  have rec4 := B3.under_code rec3
  have tab4 := B3.under_tab tab3
  clear B3 B2'
  dsimp only
  repeat' (walk_at "mm")
  rename Bd _ _ _ _ _ _ _ => B5
  refine Name_function_global rfl rfl (loadGlobal_global (T.g.keeps B5.tops) ks.cls ?_) (by decide)
  refine callWith_K kf.X kx.kp ?_
  repeat (walk_at "mm")
  · exact kf.X.keeps B5.tops
  refine make_spec kx kf.X T.nolimit (Rm.less (k := 1) hR') B5 fun x dx h6 od6 tk6 es6 n6 J6 B6 l6 j6 hod6 hes6 hget6 xf dxf => ?_
  dsimp only
  repeat' (walk_at "mm")
  rename Bd _ _ _ _ _ _ _ => B7
  refine plainObj_wpAny_Assign_Attribute ?_
  repeat (walk_at "mm")
  have X7 := kf.X.keeps B7.tops
  obtain ⟨ox, hox, hxc, hxd, hxp⟩ := B7.sub _ _ j6
  obtain ⟨od7, hod7, _, e1, e2, e3⟩ := (B7.mus _ (List.Mem.head _)).1
  have hdL : dx ≠ L := (B7.mus _ (List.Mem.head _)).2.1
  refine set_attr (L := L) (dx := dx) (od := od7) (ox := ox) (es := es6) (n := n6) kx B7.ns hdL X7 ⟨hox, hxc, by unfold notCls; rw [hxp], by rw [hxd]; exact hod7⟩ hxd (e3.trans hod6) kx.tr (by rw [hget6]; rfl) (by omega) fun h8 od8 k8 hn8 hs8 hd8 hdata8 => ?_
  have nf8 : NF od8 := fun vs q => by rw [hdata8] at q; cases q
  have B8 := B7.updL (pre := []) rfl hn8 hs8 (sh' := .raw od8) ⟨od8, hd8, nf8, rfl, rfl, rfl⟩
  clear hn8 hs8 hd8 B7 hod7 hox
  dsimp only [List.nil_append] at B8 ⊢
  repeat' (walk_at "mm")
  rename_i a9 h9 J9 B9 l9 j9
  have fx := l9 _ _ j6
  have ff := l9 _ _ (l6 _ _ j3)
  have kU : (hideAll s.heap [P]).StaysIn h9 := fun b o q => B9.base _ _ (st3 _ _ q)
  have hLh : ∀ {b : Addr} {o : Obj}, s.heap.get? b = some o → b < L := fun {b o} q => hLe ▸ Heap.lt_size q
  refine hQ a9 x p f h9 _ _ kU (tab4.keeps B9.base) (B9.sub _ _ j9) (B9.mus _ (List.Mem.tail _ (List.Mem.head _))).1 pfresh ?_
  intro X hX
  have hXs : ∀ b ∈ X, ∃ o, s.heap.get? b = some o ∧ NF o ∧ (hideAll s.heap [P]).get? b = some o := fun b hb => by
    obtain ⟨sh, o, ho, is⟩ := hX b hb
    obtain ⟨oP, vP, hP, hdP⟩ := tab.rec
    exact ⟨o, ho, is.nf, hideAll_get _ ho fun q => by rw [List.mem_singleton.mp q, hP] at ho; cases ho; exact is.nf _ hdP⟩
  have mp := B9.mus (p, .list [.int (0 : Nat) _]) (List.Mem.tail _ (List.Mem.head _))
  have md := B9.mus (dx, .raw od8) (List.Mem.head _)
  have m1 := B9.mus (L + 1, .cell (some (.bytes oct t))) (List.Mem.tail _ (List.Mem.tail _ (List.Mem.head _)))
  have m2 := B9.mus (L + 2, .cell (some (.ref p))) (List.Mem.tail _ (List.Mem.tail _ (List.Mem.tail _ (List.Mem.head _))))
  have nd := B9.nd
  simp only [List.map_cons, List.map_nil, List.nodup_cons, List.mem_cons, List.not_mem_nil, or_false, not_or, List.nodup_nil, and_true] at nd
  have notIn : ∀ b, b ≠ p → (∀ o, s.heap.get? b = some o → (hideAll s.heap [P]).get? b = some o → NF o → False) → b ∉ p :: X := fun b h1 h2 q => by
    rcases List.mem_cons.mp q with q | q
    · exact h1 q
    · obtain ⟨o, a1, a2, a3⟩ := hXs b q; exact h2 o a1 a3 a2
  have keep : ∀ b o, b ∉ p :: X → h9.get? b = some o → (hideAll h9 (p :: X)).get? b = some o := fun b o hb ho => hideAll_get _ ho hb
  have nJ : ∀ b sh, J9 b = some sh → b ≠ p := fun b sh hb q => by rw [q, show J9 p = none from mp.2.2.1] at hb; cases hb
  obtain ⟨ox9, hox9, c1, c2, c3⟩ := B9.sub _ _ fx
  obtain ⟨od9, hod9, _, d1, d2, d3⟩ := md.1
  obtain ⟨of9, hof9, f1, f2⟩ := B9.sub _ _ ff
  have nx : x ∉ p :: X := notIn x (nJ _ _ fx) fun o _ q _ => by rw [show _ = some o from B5.base _ _ (st3 _ _ q)] at xf; cases xf
  have ndx : dx ∉ p :: X := notIn dx (by simpa using nd.1.1) fun o _ q _ => by rw [show _ = some o from B5.base _ _ (st3 _ _ q)] at dxf; cases dxf
  have nf : f ∉ p :: X := notIn f (nJ _ _ ff) fun o _ q _ => by rw [show (hideAll s.heap [P]).get? f = none from ffresh] at q; cases q
  have n1 : L + 1 ∉ p :: X := notIn _ (fun q => nd.2.1.1 q.symm) fun o q _ _ => absurd (hLh q) (Nat.not_lt.mpr (Nat.le_add_right _ _))
  have n2 : L + 2 ∉ p :: X := notIn _ (fun q => nd.2.1.2 q.symm) fun o q _ _ => absurd (hLh q) (Nat.not_lt.mpr (Nat.le_add_right _ _))
  refine ⟨⟨ox9, od9, ⟨keep _ _ nx hox9, c1, by unfold notCls; rw [c3], by rw [c2]; exact keep _ _ ndx hod9⟩, findObj_own kx.hd kf.rd rfl ?_⟩,
    of9, L + 1, L + 2, t, _, doc, pm, none, cd, ct, keep _ _ nf hof9, f2, ?_, by with_unfolding_all rfl, by with_unfolding_all rfl, m1.1.keep fun o => keep _ o n1, m2.1.keep fun o => keep _ o n2⟩
  · have e : ∀ {es : List DictEntry} {n : Nat}, od9.data = .dict es.toArray n → lookIn (Str.ofString "read") od9 = getL (Str.ofString "read") es := fun q => by unfold lookIn getL; rw [q]; rfl
    rw [e (d3.trans hdata8)]
    exact get_put _ _ _ _ _ rfl
  · obtain ⟨cc, oc, vc, tq, e1, e2, e3, e4⟩ := rec4
    have hc9 := B9.base _ _ e2
    refine ⟨cc, oc, vc, tq, e1, keep _ _ (notIn cc (fun q => ?_) fun o _ q n => ?_) hc9, e3, e4⟩
    · obtain ⟨o, ho, is⟩ := mp.1
      rw [← q, hc9] at ho; cases ho; exact is.nf _ e3
    · have := kU _ _ q
      rw [hc9] at this; cases this; exact n _ e3
end
/-- all that a reply wants of the rest -/
noncomputable def FineAt (r : List UInt8) : Prop := ∀ c r', r = c :: r' → c.toNat ≤ r'.length → Fine (textOf (r'.take c.toNat))
/-- what the stream tells, from a place on -/
inductive Told : List UInt8 → Nat → Str → List Dat → Prop
  | stop {r : List UInt8} {k : Nat} {bf m : Str} {u : Nat} : FineAt r → oneF r bf = .stop m u → Told r k bf [.list [.str m, .int (k + u : Nat)]]
  | row {r : List UInt8} {k : Nat} {bf rp : Str} {d : Dat} {u : Nat} {ds : List Dat} : FineAt r → oneF r bf = .row d rp u → Told (r.drop u) (k + u) rp ds → Told r k bf (d :: ds)
theorem Told.fine {r : List UInt8} {k : Nat} {bf : Str} {ds : List Dat} (h : Told r k bf ds) : FineAt r := by cases h <;> assumption
theorem Told.at_stop {r : List UInt8} {k : Nat} {bf m : Str} {u : Nat} {ds : List Dat} (h : Told r k bf ds) (q : oneF r bf = .stop m u) : ds = [.list [.str m, .int (k + u : Nat)]] := by
  cases h with
  | stop _ e => rw [q] at e; cases e; rfl
  | row _ e _ => rw [q] at e; cases e
theorem Told.at_row {r : List UInt8} {k : Nat} {bf rp : Str} {d : Dat} {u : Nat} {ds : List Dat} (h : Told r k bf ds) (q : oneF r bf = .row d rp u) : ∃ ds', ds = d :: ds' ∧ Told (r.drop u) (k + u) rp ds' := by
  cases h with
  | stop _ e => rw [q] at e; cases e
  | row _ e t => rw [q] at e; cases e; exact ⟨_, rfl, t⟩
theorem port_head {n : Int} {rp bf : Str} {r : List UInt8} {d : Dat} {rp' : Str} {u : Nat} (h : portF n rp bf r = .row d rp' u) : rp' = rp ∧ ∃ xs, d = .list (.str rp :: xs) := by
  unfold portF at h
  split at h
  · cases q : many rdB (-n).toNat r with
    | error e => rw [q] at h; obtain ⟨a, b⟩ := e; cases h
    | ok a => rw [q] at h; obtain ⟨a, b⟩ := a; cases h; exact ⟨rfl, _, rfl⟩
  · cases q : many rdU n.toNat r with
    | error e => rw [q] at h; obtain ⟨a, b⟩ := e; cases h
    | ok a => rw [q] at h; obtain ⟨a, b⟩ := a; cases h; exact ⟨rfl, _, rfl⟩
theorem after_head {rp bf : Str} {r : List UInt8} {d : Dat} {rp' : Str} {u : Nat} (h : afterF rp bf r = .row d rp' u) : rp' = rp ∧ ∃ xs, d = .list (.str rp :: xs) := by
  unfold afterF at h
  split at h
  · cases h; exact ⟨rfl, _, rfl⟩
  · cases h; exact ⟨rfl, _, rfl⟩
  · cases h; exact ⟨rfl, _, rfl⟩
  · exact port_head h
theorem shift_inv {n : Nat} {o : One} {d : Dat} {rp : Str} {u : Nat} (h : o.shift n = .row d rp u) : ∃ u', o = .row d rp u' ∧ u = n + u' := by
  cases o with
  | stop m u' => cases h
  | row d' rp' u' => cases h; exact ⟨_, rfl, rfl⟩
theorem one_head {r : List UInt8} {bf rp : Str} {d : Dat} {u : Nat} (h : oneF r bf = .row d rp u) : ∃ xs, d = .list (.str rp :: xs) := by
  unfold oneF at h
  split at h
  · cases h
  · split at h
    · cases h
    · obtain ⟨u', e, _⟩ := shift_inv h
      obtain ⟨rfl, xs, rfl⟩ := after_head e
      exact ⟨xs, rfl⟩
/-- what a def that makes a stream and catches has left behind -/
structure TWent (Gb : Heap) (l : List Env) (I : Fz) (h h' : Heap) (J : Fz) : Prop where
  base : Gb.StaysIn h'
  frames : h'.FunFrames Gb l
  kept : Kept [] h h'
  le : I.le J
  new : ∀ a sh, J a = some sh → I a = none → rawOf h [] a = none
  sub : ∀ a sh, J a = some sh → sh.At h' a
section
variable {g : Gd} {en : Ent} {I J : Fz} {L : Addr} {m : Str → Option Value} {mu : List (Addr × Sh)} {h h' : Heap} {l : List Env}
theorem Bd.told (B : Bd g en I L m mu h) (W : TWent g.h l I h h' J) : Bd g en J L m mu h' := by
  have new : ∀ a sh (sh' : Sh), sh'.At h a → I a = none → J a = some sh → False := fun a sh sh' at_ hi hj => raw_clash (W.new a sh hj hi) (by simp) at_
  have B' : Bd g en I L m mu h' := B.moved W.base (W.kept.mono fun b hb => nomatch hb) rfl fun q hq => W.kept _ _ (by simp) (B.mus q hq).1
  exact { B' with
    gi := B.gi.trans W.le
    gf := fun a sh hj hg => by
      cases q : I a with
      | some sh' => exact B.gf a sh' q hg
      | none =>
        cases r : g.h.get? a with
        | none => rfl
        | some o =>
          obtain ⟨o', ho', is⟩ := W.sub a sh hj
          rw [W.base _ _ r] at ho'
          cases ho'
          exact (new a sh (.raw o) ⟨o, B.base _ _ r, is.nf, rfl, rfl, rfl⟩ q hj).elim
    ei := B.ei.trans W.le
    ef := fun a sh hj he => by
      cases q : I a with
      | some sh' => exact B.ef a sh' q he
      | none =>
        cases r : en.Z a with
        | none => rfl
        | some sh' => exact (new a sh sh' (B.kz a sh' r) q hj).elim
    sub := W.sub
    iL := by
      cases q : J L with
      | none => rfl
      | some sh => exact (new L sh _ (at_ns B.ns) B.iL q).elim
    mus := fun q hq => by
      refine ⟨(B'.mus q hq).1, (B'.mus q hq).2.1, ?_, (B'.mus q hq).2.2.2⟩
      cases r : J q.1 with
      | none => rfl
      | some sh => exact (new q.1 sh _ (B.mus q hq).1 (B.mus q hq).2.2.1 r).elim }
/-- landed, one of the mutable ones moved -/
theorem Bd.caughtP {fs : List Env} {fl cls : Value} {args : List Value} {e p : Addr} {sh0 sh1 : Sh} {pre post : List (Addr × Sh)} (B : Bd g en I L m mu h) (hmu : mu = pre ++ (p, sh0) :: post) (r : Err g.h fs fl cls args [(p, sh1)] h e h') : Bd g en I L m (pre ++ (p, sh1) :: post) h' := by
  have nd := B.nd
  rw [hmu, List.map_append, List.map_cons, List.nodup_append] at nd
  have npre : ∀ q ∈ pre, q.1 ≠ p := fun q hq r => nd.2.2 q.1 (List.mem_map_of_mem hq) p List.mem_cons_self r
  have npost : ∀ q ∈ post, q.1 ≠ p := fun q hq r => (List.nodup_cons.mp nd.2.1).1 (List.mem_map.mpr ⟨q, hq, r⟩)
  refine B.moved r.base (r.keeps.mono fun b hb => ?_) ?_ ?_
  · rw [List.map_cons, List.map_nil, List.mem_singleton] at hb; rw [hb, hmu]; simp
  · rw [hmu]; simp
  · intro q hq
    rcases List.mem_append.mp hq with hq | hq
    · exact r.keeps _ _ (by simpa using npre q hq) (B.mus q (by rw [hmu]; simp [hq])).1
    · rcases List.mem_cons.mp hq with rfl | hq
      · exact r.mus _ (List.Mem.head _)
      · exact r.keeps _ _ (by simpa using npost q hq) (B.mus q (by rw [hmu]; simp [hq])).1
theorem frames_base {base base' : Heap} : ∀ {l : List Env}, h.FunFrames base l → (∀ b ∈ l.filterMap (·.frame), base'.get? b = none) → h.FunFrames base' l
  | [], _, _ => trivial
  | env :: l, ⟨hk, ⟨L, o, hf, hn, ho, hd⟩, hr⟩, q => by
    refine ⟨hk, ⟨L, o, hf, q L (by rw [List.filterMap_cons, hf]; exact List.mem_cons_self), ho, hd⟩, frames_base hr fun b hb => q b ?_⟩
    rw [List.filterMap_cons, hf]; exact List.mem_cons_of_mem _ hb
theorem hide_fields {Y : List Addr} {b : Addr} {o : Obj} {vs : Array Value} (hY : ∀ b ∈ Y, ∃ sh : Sh, sh.At h b) (ho : h.get? b = some o) (hd : o.data = .fields vs) : (hideAll h Y).get? b = some o :=
  hideAll_get _ ho fun q => by obtain ⟨sh, o', ho', is⟩ := hY b q; rw [ho] at ho'; cases ho'; exact is.nf _ hd
theorem hide_tab {Y : List Addr} {P : Addr} {pos : Pos} {q : Str} (hY : ∀ b ∈ Y, ∃ sh : Sh, sh.At h b) (t : Tab h P pos q) : Tab (hideAll h Y) P pos q := by
  rcases t with t | ⟨c, t, r⟩
  · exact .inl (hide_fields hY t rfl)
  · obtain ⟨c1, oc, vs, tq, a, b, d, f⟩ := r
    exact .inr ⟨c, hide_fields hY t rfl, c1, oc, vs, tq, a, hide_fields hY b d, d, f⟩
end
structure Kv (K : Frag) : Prop where
  s : findIn K (.type "ValueError") "__str__" = some (some (.builtin "BaseException.__str__"))
  b : subIn K (.type "ValueError") (.type "BaseException") = some true
section
variable {prog : Program} {w : World} {A : Around} {E : Value → Shared → Prop} {s : Shared} {K : Frag} {C fi c P x p fr Cr Cp : Addr} {Gt Gb Gl : Heap} {oct : Array UInt8} {mg mb : Str → Option Value} {fa : Nat → Addr} {l : List Env} {I : Fz}
noncomputable abbrev env19 (L fo : Addr) (cd : Value) : Env := envX (fnName 19) (fnScope 19) L fo cd []
inductive ToldI (s : Shared) (Gl Gt h₀ : Heap) (I0 : Fz) (L ra p x : Addr) (oct : Array UInt8) (ds : List Dat) (n : Nat) (s' : Shared) : Prop
  | mk (k : Nat) (bf : Str) (tb : Tok) (ds1 ds2 : List Dat) (ys : List Value) (J : Fz) (m' : Str → Option Value) (h : Heap) (tk : Nat) (t' : Tok) (e : s' = { s with heap := h, toks := tk }) (B : Bd ⟨Gl, I0⟩ ⟨rawOf h₀ [], I0, Gt⟩ J L m' [(ra, .list ys), (p, .list [.int (k : Nat) t'])] h)
    (m1 : m' "stream" = some (.ref x)) (m2 : m' "place" = some (.ref p)) (m3 : m' "rows" = some (.ref ra)) (m4 : m' "before" = some (.str bf tb)) (hk : k ≤ oct.size) (hys : DatIs J ys ds1) (hd : Told (oct.toList.drop k) k bf ds2) (hdd : ds1 ++ ds2 = ds) (hn : n = ds2.length)
set_option maxHeartbeats 8000000 in
theorem told_loop {Q : Flow → Shared → Prop} {ds : List Dat} {h₀ : Heap} {I0 : Fz} {L ra : Addr} {cd : Value} {m : Str → Option Value} {t0 tb : Tok} (kf : Kf K C Gt) (ke : Ke K Cr Cp mg Gt) (kv : Kv K) (T : Tops mg mb fa Gt) (hT : Gt.StaysIn Gl) (S : Stm K C Gl x p fr oct) (hR : Rm A 11) (hfr : A.frames = some (env19 L (fa 19) cd :: l)) (hl : h₀.FunFrames Gl l)
    (hpG : Gl.get? p = none) (ho : oct.size ≤ 1000000) (hds : ds.length ≤ 1000) (hd : Told oct.toList 0 (Str.ofString "") ds)
    (B : Bd ⟨Gl, I0⟩ ⟨rawOf h₀ [], I0, Gt⟩ I L m [(ra, .list []), (p, .list [.int (0 : Nat) t0])] s.heap) (m1 : m "stream" = some (.ref x)) (m2 : m "place" = some (.ref p)) (m3 : m "rows" = some (.ref ra)) (m4 : m "before" = some (.str (Str.ofString "") tb))
    (hQ : ∀ v J m' mu' h' tk, Bd ⟨Gl, I0⟩ ⟨rawOf h₀ [], I0, Gt⟩ J L m' mu' h' → DatI J v (.list ds) → Q (.ret v) { s with heap := h', toks := tk }) :
    wpC (model prog w) A (execs ((fnBody 19).drop 3) (env19 L (fa 19) cd)) Q E s := by
  with_unfolding_all show wpC _ _ (execs (_ :: []) _) _ _ _
  refine execsC (whileC ?_)
  refine loopC (ToldI s Gl Gt h₀ I0 L ra p x oct ds) ?_ ds.length ⟨0, _, tb, [], ds, [], I, m, s.heap, s.toks, t0, rfl, B, m1, m2, m3, m4, Nat.zero_le _, .nil, hd, rfl, rfl⟩
  clear B m1 m2 m3 m4 hd
  rintro n s' ⟨k, bf, tb, ds1, ds2, ys, J, m', h, tk, t', rfl, B, m1, m2, m3, m4, hk, hys, hd, hdd, rfl⟩
  have hfrs : h.FunFrames Gl (env19 L (fa 19) cd :: l) := Heap.FunFrames.cons (by with_unfolding_all exact (by decide : ScopeKind.function ≠ ScopeKind.module)) rfl B.ns B.gL (frames_kept (mu := []) B.kept (fun _ q => nomatch q) hl)
  repeat' (walk_at "mm")
  refine execsC (tryC (execsC (assignC (calledC ?_))))
  refine n_fn 18 B T ?_
  refine c_fnC T ?_
  repeat (walk_at "mm")
  · exact B.tops
  have mp := B.mus (p, .list [.int (k : Nat) t']) (List.Mem.tail _ (List.Mem.head _))
  refine one_spec (Gb := Gl) (I := J) (Cr := Cr) (Cp := Cp) kf ke T hT S (Rm.less (k := 1) hR) hfr hfrs B.base B.sub mp.1 hpG mp.2.2.1 hk ho hd.fine ?_ ?_
  · intro v d rp u J' h' tk' t2 hone hku W hp' hv
    have B' := B.went (pre := [(ra, .list ys)]) (post := []) W rfl hp'
    obtain ⟨ds', rfl, hd'⟩ := hd.at_row hone
    rw [List.drop_drop] at hd'
    obtain ⟨xs, rfl⟩ := one_head hone
    have hys' := hys.mono W.le
    have hlen := hys.length
    have hlt : ds1.length ≤ 1000 := by rw [← hdd, List.length_append] at hds; omega
    obtain ⟨b, vs, hb, hvs, rfl⟩ : ∃ b vs, J' b = some (.list vs) ∧ DatIs J' vs (.str rp :: xs) ∧ v = .ref b := by
      cases hv with
      | list a b => exact ⟨_, _, a, b, rfl⟩
    obtain ⟨tr, vs', rfl⟩ : ∃ tr vs', vs = .str rp tr :: vs' := by
      cases hvs with
      | cons a b => cases a; exact ⟨_, _, rfl⟩
    dsimp only [List.cons_append, List.nil_append] at B' ⊢
    clear B
    repeat' (walk_at "mm")
    refine wpC_any ?_
    repeat' (walk_at "mm")
    refine wpC_any ?_
    repeat' (walk_at "mm")
    rename Bd _ _ _ _ _ _ _ => B2
    refine l_append (pre := []) (post := [(p, _)]) B2 rfl (fun h3 B3 => ?_) (by rw [sizeLine_eq]; omega)
    dsimp only [List.nil_append] at B3
    repeat ((with_reducible show wpAny _ _ _ _ _ _); walk_at "mm")
    refine ⟨ds'.length, by simp, k + u, rp, tr, ds1 ++ [.list (.str rp :: xs)], ds', _, J', _, _, _, t2, rfl, by assumption, ?_, ?_, ?_, ?_, hku, hys'.append (.one (.list hb hvs)), hd', by rw [← hdd]; simp, rfl⟩
    · with_unfolding_all exact m1
    · with_unfolding_all exact m2
    · with_unfolding_all exact m3
    · with_unfolding_all rfl
  · intro e h' tk' ms u v t2 hone er
    have hdu := hd.at_stop hone
    have hX : ∀ {h : Heap}, Gl.StaysIn h → K.In h := fun hg => kf.X.keeps fun b o q => hg b o (hT b o q)
    have hlen := hys.length
    have hlt : ds1.length ≤ 1000 := by rw [← hdd, List.length_append] at hds; omega
    dsimp only
    refine err_note_any (L := L) hfr er fun h₂ er₂ => ?_
    refine err_land er₂ fun h₃ er₃ => ?_
    have B₃ := B.caughtP (pre := [(ra, .list ys)]) (post := []) rfl er₃
    dsimp only
    refine hb_as (hX er₃.base) er₃.ty ke.vv (fun Q' E' q => ?_) ?_
    · exact n_bi B₃ T (by decide) q
    refine err_land er₃ fun h₄ er₄ => ?_
    have B₄ := B.caughtP (pre := [(ra, .list ys)]) (post := []) rfl er₄
    obtain ⟨t0', x4, y4⟩ := er₄.exc
    dsimp only
    refine wpAny_storeName_local rfl B₄.ns (fun h₅ hn₅ hs₅ => ?_) rfl
    have x5 := exc_same x4 B₄.ns hs₅
    have y5 := tup_same y4 B₄.ns hs₅
    have B₅ := B₄.store hn₅ hs₅
    clear x4 y4 er₄ er₃ er₂ er B₄ B₃ hn₅ hs₅ B
    dsimp only [List.cons_append, List.nil_append] at B₅ ⊢
    repeat' (walk_at "mm")
    refine str_own (hX B₅.base) kv.s kv.b (by have := hR.un; show A.units + 2 < _; omega) x5 y5 ?_
    repeat' (walk_at "mm")
    rename_i a6 h6 J6 B6 l6 j6 a7 h7 J7 B7 l7 j7
    refine l_add B7 (B7.mus (ra, .list ys) (List.Mem.head _)).1 (B7.sub _ _ j7) (fun c8 h8 J8 B8 l8 j8 => ?_) (by rw [sizeLine_eq]; simp only [List.length_cons, List.length_nil]; omega)
    repeat' (walk_at "mm")
    refine name_goes B8 fun h₉ m₉ B₉ => ?_
    refine hQ _ _ _ _ _ _ B₉ (.list j8 ?_)
    rw [← hdd, hdu]
    exact (hys.mono (l6.trans (l7.trans l8))).append (.one (.list ((l7.trans l8) _ _ j6) (.cons (.str _ _) (.cons (.int _ _) .nil))))
end
section
variable {prog : Program} {w : World} {A : Around} {E : Value → Shared → Prop} {s : Shared} {K : Frag} {C fi c P Cr Cp : Addr} {Gt Gb : Heap} {oct : Array UInt8} {mg mb : Str → Option Value} {fa : Nat → Addr} {l : List Env} {I : Fz}
set_option maxHeartbeats 8000000 in
theorem told_spec {Q : Value → Shared → Prop} {ds : List Dat} {t : Tok} (kf : Kf K C Gt) (kx : Kx K C fi) (ke : Ke K Cr Cp mg Gt) (kv : Kv K) (T : Tops mg mb fa Gt) (ks : Ks mg fa C c P Gt) (hT : Gt.StaysIn Gb) (hb : Gb.StaysIn s.heap) (hPb : Gb.get? P = none) (tab : Tab s.heap P rdPos rdQual)
    (hR : Rm A 12) (hfr : A.frames = some l) (hl : s.heap.FunFrames Gb l) (hI : ∀ a sh, I a = some sh → sh.At s.heap a) (ho : oct.size ≤ 1000000) (hds : ds.length ≤ 1000) (hd : Told oct.toList 0 (Str.ofString "") ds)
    (hQ : ∀ v J h' tk, TWent Gb l I s.heap h' J → Tab h' P rdPos rdQual → DatI J v (.list ds) → Q v { s with heap := h', toks := tk }) :
    wpC (model prog w) A (call (.ref (fa 19)) [.bytes oct t]) Q E s := by
  refine c_inC 19 (Gb := s.heap) (I := I) (mu := []) (binds := [("octets", .bytes oct t)]) T (fun b o q => hb _ _ (hT _ _ q)) (fun _ _ q => q) (by have := hR.dp; omega) hI (fun _ q => nomatch q) List.nodup_nil (fun _ _ _ _ => rfl) (fun cd h₀ B => ?_) (hloc := locs rfl)
  have hR' := Rm.deeper (n := 11) hR (env19 s.heap.objs.size (fa 19) cd)
  have hfr' := Around.frames_deeper (env := env19 s.heap.objs.size (fa 19) cd) hfr
  generalize A.deeper _ = A' at hR' hfr' ⊢
  generalize hLe : s.heap.objs.size = L at B hfr' ⊢
  with_unfolding_all show wpC _ _ (execs (_ :: _ :: _ :: _ :: []) _) _ _ _
  refine execsA ?_
  repeat' (walk_at "mm")
  refine n_fn 11 B T ?_
  refine c_fn T (Bd.tops B) ?_
  repeat (walk_at "mm")
  · exact B.tops
  refine stream_spec kf kx T ks B.tops (Rm.less (k := 6) hR') (tab.keeps B.base) ?_
  intro a x p fr h₁ tk₁ t₁ keep₁ tab₁ ha hp pf hStm
  dsimp only at keep₁ pf
  obtain ⟨oP, vP, hP, hdP⟩ := (tab.keeps B.base).rec
  have hPs : ∃ o vs, s.heap.get? P = some o ∧ o.data = .fields vs := tab.rec
  obtain ⟨aL, aM, aI, aZ⟩ := B.apart ⟨oP, vP, hP, hdP⟩
  have k₁ : ∀ b o, b ≠ P → h₀.get? b = some o → h₁.get? b = some o := fun b o hb q => keep₁ b o (hideAll_get _ q (by simpa using hb))
  have fr0 : ∀ b ∈ l.filterMap (·.frame), Gb.get? b = none ∧ ∃ o, s.heap.get? b = some o ∧ NF o := fun b hb => by
    obtain ⟨h1, o, ho, hn⟩ := hl.mem hb
    exact ⟨h1, o, ho, hn⟩
  have neP : ∀ b o, s.heap.get? b = some o → NF o → b ≠ P := fun b o q n r => by
    obtain ⟨o', vs, h1, h2⟩ := hPs
    rw [r, h1] at q; cases q; exact n _ h2
  have hXat : ∀ b ∈ L :: l.filterMap (·.frame), ∃ sh : Sh, sh.At h₀ b := fun b hb => by
    rcases List.mem_cons.mp hb with rfl | hb
    · exact ⟨_, at_ns B.ns⟩
    · obtain ⟨_, o, ho, hn⟩ := fr0 b hb
      exact ⟨.raw o, o, B.base _ _ ho, hn, rfl, rfl, rfl⟩
  have S := hStm (L :: l.filterMap (·.frame)) hXat
  have pL : p ≠ L := B.L_of pf
  have sp : s.heap.get? p = none := B.g_of pf
  have sL : s.heap.get? L = none := B.gL
  have hYat : ∀ b ∈ p :: L :: l.filterMap (·.frame), ∃ sh : Sh, sh.At h₁ b := fun b hb => by
    rcases List.mem_cons.mp hb with rfl | hb
    · exact ⟨_, hp⟩
    rcases List.mem_cons.mp hb with rfl | hb
    · exact ⟨_, at_ns (B.ns.at' fun o => k₁ _ o aL)⟩
    · obtain ⟨_, o, ho, hn⟩ := fr0 b hb
      exact ⟨.raw o, o, k₁ _ _ (neP _ _ ho hn) (B.base _ _ ho), hn, rfl, rfl, rfl⟩
  have tabl := hide_tab hYat tab₁
  generalize hGl : hideAll h₁ (p :: L :: l.filterMap (·.frame)) = Gl at S tabl
  have glp : ∀ b ∈ p :: L :: l.filterMap (·.frame), Gl.get? b = none := fun b hb => hGl ▸ hideAll_none _ hb
  have glh : Gl.StaysIn h₁ := fun b o q => of_hideAll _ (hGl ▸ q)
  have gbl : Gb.StaysIn Gl := fun b o q => by
    have h1 := hb b o q
    have hbP : b ≠ P := fun r => by rw [r, hPb] at q; cases q
    rw [← hGl]
    refine hideAll_get _ (k₁ _ _ hbP (B.base _ _ h1)) fun r => ?_
    rcases List.mem_cons.mp r with r | r
    · rw [r, sp] at h1; cases h1
    rcases List.mem_cons.mp r with r | r
    · rw [r, sL] at h1; cases h1
    · rw [(fr0 b r).1] at q; cases q
  have hTl : Gt.StaysIn Gl := fun b o q => gbl _ _ (hT _ _ q)
  have hll : s.heap.FunFrames Gl l := frames_base hl fun b hb => glp b (List.mem_cons_of_mem _ (List.mem_cons_of_mem _ hb))
  have zP : ∀ {b : Addr} {sh : Sh}, rawOf s.heap [] b = some sh → b ≠ P := fun {b sh} q r => by rw [r, show rawOf s.heap [] P = none from aZ] at q; cases q
  have B₁ : Bd ⟨Gl, I⟩ ⟨rawOf s.heap [], I, Gt⟩ I L (fun y => ([(Str.ofString "octets", Value.bytes oct t)] : List (Str × Value)).reverse.lookup y) [] h₁ :=
    { tG := hTl
      base := glh
      kz := fun b sh q => (B.kz b sh q).keep fun o => k₁ _ o (zP q)
      gi := Fz.le.refl _
      gf := fun a sh q hq => by rw [show I a = none from hq] at q; cases q
      ei := B.ei
      ef := B.ef
      sub := fun b sh q => (B.sub b sh q).keep fun o => k₁ _ o (fun r => by rw [r, aI] at q; cases q)
      ns := B.ns.at' fun o => k₁ _ o aL
      zL := B.zL
      gL := glp L (List.mem_cons_of_mem _ List.mem_cons_self)
      iL := B.iL
      mus := fun _ q => nomatch q
      nd := List.nodup_nil }
  have B₂ := B₁.hold hp (B.none_of pf) (glp p List.mem_cons_self) (B.z_of pf) pL (fun _ q => nomatch q)
  clear B₁ B hXat hYat hStm hp k₁ keep₁
  dsimp only
  refine u_list hR'.hd B₂ ha fun h₂ B₃ => ?_
  clear B₂ ha
  repeat' (walk_at "mm")
  rename Bd _ _ _ _ _ _ _ => B₄
  refine execsA ?_
  repeat' (walk_at "mm")
  refine a_listM B₄ (fun ra h₅ B₅ => ?_) (by size_fits)
  dsimp only
  repeat' (walk_at "mm")
  refine execsA ?_
  repeat' (walk_at "mm")
  rename Bd _ _ _ _ _ _ _ => B₆
  show wpC _ _ (execs ((fnBody 19).drop 3) _) _ _ _
  refine told_loop (ra := ra) kf ke kv T hTl S hR' hfr' hll (glp p List.mem_cons_self) ho hds hd B₆ (by with_unfolding_all rfl) (by with_unfolding_all rfl) (by with_unfolding_all rfl) (by with_unfolding_all rfl) ?_
  intro v J m' mu' h' tk B' hv
  refine hQ v J h' tk ⟨fun b o q => B'.base _ _ (gbl _ _ q), frames_kept (mu := []) B'.kept (fun _ q => nomatch q) hl, B'.kept, B'.gi, B'.ef, B'.sub⟩ (tabl.keeps B'.base) hv
end
noncomputable def numsF (ns : List Int) : List Int := [520, 833, 770] ++ (ns.take 12).map fun x => x.fmod 6144
noncomputable def recsF (ns : List Int) : List Rec := (numsF ns).map recF
noncomputable def octF (ns : List Int) : Array UInt8 := byteArr ((recsF ns).flatMap Rec.ints)
noncomputable def cutF (ns : List Int) : Int := (numsF ns).sum.fmod ((octF ns).size + 1)
/-- what the plain law tells of the script -/
structure Plain (ns : List Int) : Prop where
  ok : ∀ r ∈ recsF ns, r.ok
  ne : ∀ r ∈ recsF ns, ∀ p ∈ r.parts, 0 < p.xs.length
  size : (octF ns).size ≤ 1000000
  dp1 : Dp 5 (.list (dueF (recsF ns) (octF ns).size))
  dp2 : Dp 5 (.list (dueF (recsF ns) (cutF ns)))
  l1 : (dueF (recsF ns) (octF ns).size).length ≤ 1000
  l2 : (dueF (recsF ns) (cutF ns)).length ≤ 1000
  told1 : Told (octF ns).toList 0 (Str.ofString "") (dueF (recsF ns) (octF ns).size)
  told2 : Told ((octF ns).toList.take (cutF ns).toNat) 0 (Str.ofString "") (dueF (recsF ns) (cutF ns))
section
variable {prog : Program} {w : World} {A : Around} {E : Value → Shared → Prop} {s : Shared} {K : Frag} {C fi c P Cr Cp : Addr} {Gt Gb : Heap} {mg mb : Str → Option Value} {fa : Nat → Addr} {l : List Env} {I : Fz}
noncomputable abbrev env20 (L fo : Addr) (cd : Value) : Env := envX (fnName 20) (fnScope 20) L fo cd []
set_option maxHeartbeats 8000000 in
theorem law_head {Q : Flow → Shared → Prop} {ns : List Int} {vs : List Value} {L fo sa : Addr} {cd : Value} {m : Str → Option Value} {g : Gd} {e : Ent} (T : Tops mg mb fa e.top) (hR : Rm A 14) (pl : Plain ns)
    (B : Bd g e I L m [] s.heap) (m1 : m "script" = some (.ref sa)) (hs : g.h.IsList sa vs.toArray) (hv : IntsAre vs ns) (hlen : vs.length ≤ 100)
    (h : ∀ J h' tk rv to tc m', Bd g e J L m' [] h' → DatI J rv (.list ((recsF ns).map Rec.dat)) → m' "records" = some rv → m' "octets" = some (.bytes (octF ns) to) → m' "cut" = some (.int (cutF ns) tc) →
      wpC (model prog w) A (execs ((fnBody 20).drop 4) (env20 L fo cd)) Q E { s with heap := h', toks := tk }) :
    wpC (model prog w) A (execs (fnBody 20) (env20 L fo cd)) Q E s := by
  with_unfolding_all show wpC _ _ (execs (_ :: _ :: _ :: _ :: _ :: _ :: []) _) _ _ _
  refine execsA ?_
  repeat' (walk_at "mm")
  rename_i a1 h1 J1 B1 l1 j1
  refine ls_cut (vs := vs) (lo := none) (hi := some 12) rfl rfl B1 (hs.at fun o q => B1.base _ _ q) .none (.int _ _) (fun b2 h2 J2 B2 l2 j2 => ?_) (by rw [sizeLine_eq]; omega) rfl
  rw [show slicePick vs.toArray none (some 12) none = (vs.toArray.toList.take 12).toArray from slicePick_upto' vs.toArray 12] at j2
  have hv12 : IntsAre (vs.take 12) (ns.take 12) := hv.take 12
  have hl12 := hv12.length
  have j2' : J2 b2 = some (.list (vs.take 12)) := by simpa using j2
  dsimp only
  refine comp_list (fun i J mu' zs => mu' = [] ∧ IntsAre zs (((ns.take 12).take i).map fun x => x.fmod 6144)) hR.hd B2 j2' ⟨rfl, .nil⟩ (by rw [sizeLine_eq, List.length_take]; omega) (by decide) rfl let_name ?_ ?_
  · intro i v g3 J3 C3 D3 m3 mu3 zs h3 tk3 hv3 ov3 B3 hJ3 hP3 hzl nL
    refine opq2 fun Qt Et hQt hEt => ?_
    obtain ⟨rfl, hzs⟩ := hP3
    obtain ⟨n3, t3, rfl, hn3⟩ := hv12.at i v hv3
    repeat (walk_at "mm")
    refine hQt _ _ ⟨J3, _, _, _, _, rfl, by assumption, rfl, ?_⟩
    rw [take_of hn3, List.map_append]
    exact intsAre_append hzs (.cons _ _ .nil)
  rintro J3 C3 D3 mC3 mu3 zs h3 tk3 B3 hJ3 ⟨rfl, hzs⟩ hzl nC3 lD3 hCD3 oC3 oD3
  refine comp_done B3 nC3 lD3 hCD3 oC3 oD3 fun h4 J4 B4 hJ4 hD4 => ?_
  rw [List.take_of_length_le (by rw [hl12]; exact Nat.le_refl _)] at hzs
  dsimp only
  have hzl' : zs.length ≤ 12 := by rw [hzl, List.length_take]; omega
  refine l_add B4 (B4.sub _ _ ((l2.trans (hJ3.trans hJ4)) _ _ j1)) (B4.sub _ _ hD4) (fun c5 h5 J5 B5 l5 j5 => ?_) (by rw [sizeLine_eq]; simp only [List.length_cons, List.length_nil]; omega)
  obtain ⟨vn, jn, hnum, hvnl⟩ : ∃ vn, J5 c5 = some (.list vn) ∧ IntsAre vn (numsF ns) ∧ vn.length ≤ 15 := ⟨_, j5, intsAre_append (.cons _ _ (.cons _ _ (.cons _ _ .nil))) hzs, by rw [List.length_append]; simp only [List.length_cons, List.length_nil]; omega⟩
  have hnb : ∀ z ∈ numsF ns, 0 ≤ z ∧ z < 6144 := by
    intro z hz
    rcases List.mem_append.mp hz with hz | hz
    · simp only [List.mem_cons, List.not_mem_nil, or_false] at hz
      omega
    · obtain ⟨x, _, rfl⟩ := List.mem_map.mp hz
      exact ⟨Int.fmod_nonneg_of_pos _ (by decide), Int.fmod_lt_of_pos _ (by decide)⟩
  have hnl : (numsF ns).length = vn.length := hnum.length.symm
  clear B1 B2 B3 B4 j5 hzs
  repeat' (walk_at "mm")
  rename Bd _ _ _ _ _ _ _ => B6
  refine execsA ?_
  refine lc_use (by with_unfolding_all rfl) (by with_unfolding_all rfl) (by intro _; with_unfolding_all rfl) (by with_unfolding_all rfl) (by with_unfolding_all decide) ?_
  repeat' (walk_at "mm")
  refine comp_list (fun i J mu' zs => mu' = [] ∧ DatIs J zs ((((numsF ns).take i).map recF).map Rec.dat)) hR.hd B6 jn ⟨rfl, .nil⟩ (by rw [sizeLine_eq]; omega) (by decide) rfl let_name ?_ ?_
  · intro i v g7 J7 C7 D7 m7 mu7 zs h7 tk7 hv7 ov7 B7 hJ7 hP7 hzl nL
    refine opq2 fun Qt Et hQt hEt => ?_
    obtain ⟨rfl, hzs⟩ := hP7
    obtain ⟨n7, t7, rfl, hn7⟩ := hnum.at i v hv7
    have hb7 := hnb n7 (List.mem_of_getElem? hn7)
    repeat (walk_at "mm")
    rename Bd _ _ _ _ _ _ _ => B8
    refine n_fn 14 B8 T ?_
    refine c_fn T (Bd.tops B8) ?_
    repeat (walk_at "mm")
    · exact B8.tops
    refine record_spec T B8.tops (Rm.less (k := 9) hR) (fun a sh q => B8.sub a sh q) hb7 fun v9 tk9 h9 J9 ret9 hv9 => ?_
    refine hQt _ _ ⟨J9, _, _, _, _, rfl, B8.after ret9, rfl, ?_⟩
    rw [take_of hn7, List.map_append, List.map_append]
    exact (hzs.mono ret9.le).append (.one hv9)
  rintro J7 C7 D7 mC7 mu7 zs h7 tk7 B7 hJ7 ⟨rfl, hzs⟩ hzl nC7 lD7 hCD7 oC7 oD7
  rw [← hnl, List.take_length] at hzs
  refine comp_use B7 nC7 lD7 hCD7 oC7 oD7 rfl rfl fun h8 J8 tk8 B8 hJ8 hD8 => ?_
  have hrec : DatI J8 (.ref D7) (.list ((recsF ns).map Rec.dat)) := .list hD8 (hzs.mono hJ8)
  have jn8 := hJ8 _ _ (hJ7 _ _ jn)
  clear B6 B7 hzs
  dsimp only
  refine execsA ?_
  repeat' (walk_at "mm")
  refine n_fn 15 B8 T ?_
  refine c_fn T (Bd.tops B8) ?_
  repeat (walk_at "mm")
  · exact B8.tops
  refine written_spec T B8.tops (Rm.less (k := 11) hR) B8.sub hrec (by unfold recsF; rw [List.length_map, hnl]; omega) pl.ok fun t9 tk9 h9 J9 ret9 => ?_
  have B9 := B8.after ret9
  have hrec9 := hrec.mono ret9.le
  have jn9 := ret9.le _ _ jn8
  have hoct : byteArr ((recsF ns).flatMap Rec.ints) = octF ns := rfl
  rw [hoct]
  have hsz := pl.size
  clear B8
  repeat' (walk_at "mm")
  rename Bd _ _ _ _ _ _ _ => B10
  refine execsA ?_
  repeat' (walk_at "mm")
  refine l_sum hR.hd B10 (B10.sub _ _ jn9) hnum fun t11 k11 h11 B11 => ?_
  clear B10 B9
  repeat' (walk_at "mm")
  rename Bd _ _ _ _ _ _ _ => B12
  exact h _ _ _ _ _ _ _ B12 hrec9 (by with_unfolding_all rfl) (by with_unfolding_all rfl) (by with_unfolding_all rfl)
end
theorem picked_upto (b : Array UInt8) (n : Nat) : KBy.picked b none (some (n : Int)) = (b.toList.take n).toArray := by
  rw [KBc.picked_eq]
  simp only [Option.elim]
  rw [clipAt_nat]
  congr 1
  rw [List.drop_zero, List.take_eq_take_iff, Array.length_toList]
  omega
section
variable {prog : Program} {w : World} {A : Around} {E : Value → Shared → Prop} {s : Shared} {K : Frag} {C fi c P Cr Cp : Addr} {Gt Gb : Heap} {mg mb : Str → Option Value} {fa : Nat → Addr} {I : Fz}
set_option maxHeartbeats 8000000 in
theorem law_tail {Q : Flow → Shared → Prop} {ns : List Int} {L fo : Addr} {cd rv : Value} {to tc : Tok} {m : Str → Option Value} {g : Gd} (kf : Kf K C Gt) (kx : Kx K C fi) (ke : Ke K Cr Cp mg Gt) (kv : Kv K) (T : Tops mg mb fa Gt) (ks : Ks mg fa C c P Gt) (hT : Gt.StaysIn Gb) (hPb : Gb.get? P = none) (hR : Rm A 14) (hfr : A.frames = some [env20 L fo cd]) (pl : Plain ns)
    (hg : Gb.StaysIn g.h) (tab : Tab g.h P rdPos rdQual) (B : Bd g ⟨Fz.nil, Fz.nil, Gt⟩ I L m [] s.heap) (hgI : g.I = Fz.nil) (hrec : DatI I rv (.list ((recsF ns).map Rec.dat))) (m1 : m "records" = some rv) (m2 : m "octets" = some (.bytes (octF ns) to)) (m3 : m "cut" = some (.int (cutF ns) tc)) (hnl : (recsF ns).length ≤ 20)
    (hQ : ∀ h' tk, Gb.StaysIn h' → Tab h' P rdPos rdQual → Q (.ret (.bool true)) { s with heap := h', toks := tk }) :
    wpC (model prog w) A (execs ((fnBody 20).drop 4) (env20 L fo cd)) Q E s := by
  have hsz := pl.size
  have hct : 0 ≤ cutF ns ∧ cutF ns ≤ (octF ns).size := by
    have h1 := Int.fmod_nonneg_of_pos (numsF ns).sum (b := ((octF ns).size : Int) + 1) (by omega)
    have h2 := Int.fmod_lt_of_pos (numsF ns).sum (b := ((octF ns).size : Int) + 1) (by omega)
    exact ⟨h1, by unfold cutF; omega⟩
  have fr : ∀ {h : Heap} {g' : Gd} {J : Fz} {m' : Str → Option Value}, Gb.StaysIn g'.h → Bd g' ⟨Fz.nil, Fz.nil, Gt⟩ J L m' [] h → h.FunFrames Gb [env20 L fo cd] := fun {h g' J m'} hg' B' => Heap.FunFrames.cons (by with_unfolding_all exact (by decide : ScopeKind.function ≠ ScopeKind.module)) rfl B'.ns (by
    cases q : Gb.get? L with
    | none => rfl
    | some o => have := hg' _ _ q; rw [B'.gL] at this; cases this) trivial
  with_unfolding_all show wpC _ _ (execs (_ :: _ :: []) _) _ _ _
  refine execsC (ifC (testC (calledC ?_)))
  refine n_fn 19 B T ?_
  refine c_fnC T ?_
  repeat (walk_at "mm")
  · exact B.tops
  refine told_spec (Gb := Gb) (I := I) kf kx ke kv T ks hT (fun b o q => B.base _ _ (hg _ _ q)) hPb (tab.keeps B.base) (Rm.less (k := 2) hR) hfr (fr hg B) B.sub hsz pl.l1 pl.told1 ?_
  intro v1 J1 h1 tk1 W1 tab1 hv1
  have B1 := Bd.told (Bd.back (g := ⟨Gb, Fz.nil⟩) B hT hg (by rw [hgI]; exact Fz.le.refl _) (fun a sh q _ => by rw [hgI] at q; cases q)) W1
  have st1 := B1.stays
  have gf1 : ∀ a sh, J1 a = some sh → Gb.get? a = none := fun a sh q => B1.gf a sh q rfl
  have tab1' := B1.under_tab tab1
  have B2 := B1.turn
  have hrec1 := hrec.mono W1.le
  clear B1 B
  repeat' (walk_at "mm")
  refine n_fn 17 B2 T ?_
  refine c_fn T (Bd.tops B2) ?_
  repeat (walk_at "mm")
  · exact B2.tops
  refine due_spec T B2.tops (Rm.less (k := 9) hR) B2.sub hrec1 hnl pl.ok pl.ne (by omega) ?_
  intro v3 tk3 h3 J3 ret3 hv3
  have B3 := B2.after ret3
  refine cmp_ne B3.sub pl.dp1 (by have := hR.un; omega) (hv1.mono ret3.le) hv3 ?_
  repeat' (walk_at "mm")
  refine wpC_any ?_
  repeat' (walk_at "mm")
  dsimp only
  have hrec3 := hrec1.mono ret3.le
  have st3 : Gb.StaysIn h3 := fun b o q => B3.base _ _ (st1 _ _ q)
  have over : ∀ {J : Fz} {m' : Str → Option Value} {h' : Heap}, Bd ⟨under h1 L [], J1⟩ ⟨Fz.nil, Fz.nil, Gt⟩ J L m' [] h' → Bd ⟨Gb, Fz.nil⟩ ⟨Fz.nil, Fz.nil, Gt⟩ J L m' [] h' := fun B' => Bd.back (g := ⟨Gb, Fz.nil⟩) B' hT st1 (fun _ _ q => by cases q) (fun a sh q _ => gf1 a sh q)
  clear B2
  refine execsC (returnC (compareC (calledC ?_)))
  refine n_fn 19 B3 T ?_
  refine c_fnC T ?_
  repeat (walk_at "mm")
  refine bs_cut (lo := none) (hi := some (cutF ns)) rfl rfl B3 .none (.int _ _) (fun t4 k4 B4 => ?_) (by rw [sizeLine_eq]; omega)
  have hpk : KBy.picked (octF ns) none (some (cutF ns)) = ((octF ns).toList.take (cutF ns).toNat).toArray := by
    rw [← picked_upto, Int.toNat_of_nonneg hct.1]
  rw [hpk]
  clear B3
  repeat (walk_at "mm")
  · exact B4.tops
  refine told_spec (Gb := Gb) kf kx ke kv T ks hT (fun b o q => B4.base _ _ (st1 _ _ q)) hPb (tab1'.keeps B4.base) (Rm.less (k := 2) hR) hfr (fr st1 B4) B4.sub (by simp only [List.size_toArray, List.length_take]; omega) pl.l2 pl.told2 ?_
  intro v5 J5 h5 tk5 W5 tab5 hv5
  have B5 := Bd.told (over B4) W5
  have st5 := B5.stays
  have tab5' := B5.under_tab tab5
  have B6 := B5.turn
  have hrec5 := hrec3.mono W5.le
  clear B5 B4
  repeat' (walk_at "mm")
  refine n_fn 17 B6 T ?_
  refine c_fn T (Bd.tops B6) ?_
  repeat (walk_at "mm")
  · exact B6.tops
  refine due_spec T B6.tops (Rm.less (k := 9) hR) B6.sub hrec5 hnl pl.ok pl.ne (by omega) ?_
  intro v7 tk7 h7 J7 ret7 hv7
  have B7 := B6.after ret7
  refine cmp_eq B7.sub pl.dp2 (by have := hR.un; omega) (hv5.mono ret7.le) hv7 ?_
  exact hQ _ _ (fun b o q => B7.base _ _ (st5 _ _ q)) (tab5'.keeps B7.base)
end
/-- what the head's written part says -/
structure KF (K : Frag) : Prop where
  nt : noTabs K = true
  fn : ∀ n ∈ [1, 2, 3, 9, 11, 12, 13, 14, 15, 16, 17, 18, 19], nsIn K mainGlobals (fnName n) = some (some (.ref (faL n))) ∧ ∃ o doc pm an cd, K.lookup (faL n) = some o ∧ o.data = .func (fnX (fnName n) (fnName n) (fnParams n) (fnBody n) (fnScope n) [] .none .none doc pm an cd .none) ∧ codeIn K cd (fnName n) = true
  st : ∃ o doc pm an, K.lookup 107 = some o ∧ o.data = .func (fnX (fnName 11) (fnName 11) (fnParams 11) (fnBody 11) (fnScope 11) [] .none .none doc pm an (.ref 106) .none) ∧ codeIn K (.ref 106) (fnName 11) = true
  code : codeHdIn K 106 102 = true
  bi : ∀ p ∈ biList, nsIn K mainGlobals p.1 = some none
  cls : nsIn K mainGlobals (Str.ofString "_Example") = some (some (.ref 52))
  er : nsIn K mainGlobals (Str.ofString "error_reply") = some (some (.ref 79))
  ep : nsIn K mainGlobals (Str.ofString "error_proto") = some (some (.ref 91))
  xr : excIn K 79 bmE "Exception.__new__" = true
  xp : excIn K 91 bmE "Exception.__new__" = true
  ga : findIn K (.ref 52) "__getattribute__" = some (some (.builtin "object.__getattribute__"))
  gn : findIn K (.ref 52) "__getattr__" = some none
  rd : findIn K (.ref 52) "read" = some none
  kx : Kx K 52 49
  kv : Kv K
  rr : exmOne K (.ref 79) (.ref 79) = some true
  pr : exmOne K (.ref 91) (.ref 79) = some false
  pp : exmOne K (.ref 91) (.ref 91) = some true
  vr : exmOne K (.type "ValueError") (.ref 79) = some false
  vp : exmOne K (.type "ValueError") (.ref 91) = some false
  vv : exmOne K (.type "ValueError") (.type "ValueError") = some true
  sr : findIn K (.ref 79) "__str__" = some (some (.builtin "BaseException.__str__"))
  sp : findIn K (.ref 91) "__str__" = some (some (.builtin "BaseException.__str__"))
  br : subIn K (.ref 79) (.type "BaseException") = some true
  bp : subIn K (.ref 91) (.type "BaseException") = some true
theorem boot_ok : ∀ p ∈ biList, p.1 ≠ "__name__" ∧ bootBuiltins p.1 = some p.2 := by
  intro p hp
  simp only [biList, List.mem_cons, List.not_mem_nil, or_false] at hp
  rcases hp with rfl | rfl | rfl | rfl | rfl | rfl | rfl | rfl | rfl | rfl <;> exact ⟨by decide +kernel, by kernel_rfl⟩
/-- the end of the claim -/
theorem good_end {cw : ClaimW} {cl : Str → Option Addr} {mean : ExcName → Option Value} {args : List WData} {s₁ s' : Shared} {P c : Addr} {pos : Pos} {q : Str} (hC : CodeHd s₁.heap c P) (hP : s₁.heap.get? P = some (tabObj #[])) (keep : (hideAll s₁.heap [P]).StaysIn s'.heap) (tab : Tab s'.heap P pos q)
    (hr : ∀ x, cw.raises args x = false) (hpost : cw.post args (.bool true) args = true) (hos : s'.os = s₁.os) (hg : s'.gens = #[]) : GoodWG cw cl mean args s₁ (.ok (.ret (.bool true))) s' := by
  have grown : ∃ ps, s'.heap.get? P = some (tabObj ps) := by rcases tab with t | ⟨c, t, _⟩ <;> exact ⟨_, t⟩
  have kept : ∀ b o, b ≠ P → s₁.heap.get? b = some o → s'.heap.get? b = some o := fun b o hb e => keep b o (hideAll_get _ e (by simpa using hb))
  refine ⟨.inl ⟨_, .bool true, [], rfl, hr, .bool true, hpost, fun _ => ⟨List.nodup_nil, fun _ h => nomatch h⟩⟩, ⟨fun b o e => ?_, fun b o e => ?_⟩, hos, .of_eq hg⟩
  · by_cases hb : b = P
    · subst hb
      obtain ⟨ps, hps⟩ := grown
      rw [hP] at e
      cases e
      exact .inr (.inl ⟨(hC.tab hP).isCodeTable, rfl, #[], ps, rfl, by rw [Array.empty_append]; exact hps⟩)
    · exact .inl (kept b o hb e)
  · by_cases hb : b = P
    · subst hb; obtain ⟨ps, hps⟩ := grown; exact ⟨_, hps⟩
    · exact ⟨o, kept b o hb e⟩
section
variable {K : Frag} {prog : Program} {p : Program} {loose : List Str} {mean mean' : ExcName → Option Value} {w : World} {s₁ : Shared} {mg mb : Str → Option Value} {fo sa : Addr} {o : Obj} {cw : ClaimW} {cl : Str → Option Addr} {args : List WData} {vs : List Value} {ns : List Int} {doc pm cd ct : Value} {an : Option Addr}
set_option maxHeartbeats 4000000 in
theorem final (kF : KF K) (pl : Plain ns) (X : K.In s₁.heap) (hP : s₁.heap.get? 102 = some (tabObj #[])) (T : Top p loose mean mg mb s₁.heap) (ho : s₁.heap.get? fo = some o)
    (hdat : o.data = .func (fnX (fnName 20) (fnName 20) (fnParams 20) (fnBody 20) (fnScope 20) [] .none .none doc pm an cd ct)) (hcd : s₁.heap.CodeRec cd (fnName 20)) (hs : s₁.heap.IsList sa vs.toArray) (hi : IntsAre vs ns) (hn : ns.length ≤ 63) (hg : s₁.gens = #[])
    (hr : ∀ x, cw.raises args x = false) (hpost : cw.post args (.bool true) args = true) :
    codeC (model prog w) callerA (.call (.ref fo) ⟨[.ref sa], []⟩) (fun res s' => match res with
        | .ok (.ret v) => GoodWG cw cl mean' args s₁ (.ok (.ret v)) s'
        | .ok _ => False
        | .error e => GoodWG cw cl mean' args s₁ (.error e) s') s₁ := by
  have hC := codeHd_of_K X kF.code
  have hT : TabsAt [(106, 102)] s₁.heap := fun q hq => by rw [List.mem_singleton.mp hq]; exact ⟨hC, hP⟩
  have TG := ghost_top hT T
  have XG := ghost_K hT X kF.nt
  have CG : CodeHd (hideAll s₁.heap [102]) 106 102 := (ghost_code hT).1
  have TR := topRead_of TG
  have keepG : (hideAll s₁.heap [102]).StaysIn s₁.heap := fun b o q => of_hideAll _ q
  have pG : (hideAll s₁.heap [102]).get? 102 = none := hideAll_none _ (List.mem_singleton.mpr rfl)
  have tops : Tops mg mb faL (hideAll s₁.heap [102]) :=
    { g := TG.g
      b := TG.b
      nolimit := TG.nolimit
      nodigits := TG.nodigits
      fn := fun n hn => ⟨mg_of XG TG.g (kF.fn n hn).1, let ⟨o, doc, pm, an, cd, a, b, c⟩ := (kF.fn n hn).2; ⟨o, doc, pm, an, cd, XG _ _ a, b, codeRec_of XG c⟩⟩
      bi := fun q hq => ⟨ns_none_of XG TG.g (kF.bi q hq), (TG.builtins q.1 (boot_ok q hq).1).trans (boot_ok q hq).2⟩ }
  have kf : Kf K 52 (hideAll s₁.heap [102]) := ⟨XG, kF.ga, kF.gn, kF.rd⟩
  have ke : Ke K 79 91 mg (hideAll s₁.heap [102]) := ⟨own_of_in XG TR kF.er kF.xr, own_of_in XG TR kF.ep kF.xp, kF.rr, kF.pr, kF.pp, kF.vr, kF.vp, kF.vv, kF.sr, kF.sp, kF.br, kF.bp⟩
  have ks : Ks mg faL 52 106 102 (hideAll s₁.heap [102]) :=
    { fn := let ⟨o, doc, pm, an, a, b, c⟩ := kF.st; ⟨o, doc, pm, an, XG _ _ a, b, codeRec_of XG c⟩
      code := CG
      bt := by
        obtain ⟨bm, ob, b1, b2, b3, b4, b5, b6⟩ := TG.bmain
        refine ⟨bm, ob, b1, b2, fun q => ?_, fun q => ?_, b3, b4, b5, b6⟩
        · obtain ⟨o, es, ep, e, hd, _⟩ := TG.g
          rw [q, e] at b3; cases b3; rw [hd] at b6; cases b6
        · have := b3
          rw [q, show (ghostOf s₁.heap [(106, 102)]).get? 102 = none from pG] at this; cases this
      cls := mg_of XG TG.g kF.cls
      pn := pG }
  refine defC (fd := fnX (fnName 20) (fnName 20) (fnParams 20) (fnBody 20) (fnScope 20) [] .none .none doc pm an cd ct) (binds := [("script", .ref sa)]) (by decide +kernel) ho hdat T.nolimit hcd rfl (BindsTo.of_eq rfl) (show ∀ x ∈ (fnScope 20).names, x.2 ≠ .cell by decide) (locs rfl) (fun h₀ hns hk₀ => ?_) rfl rfl rfl
  have Bd0 := Bd.enter (s := s₁) (I := Fz.nil) keepG (fun _ _ q => by cases q) hns hk₀
  have hR : Rm (callerA.deeper (env20 s₁.heap.objs.size fo cd)) 14 := ⟨rfl, by show 1 + claimMargin + 1 + 14 < recursionLimit; decide +kernel, by show 4 + 3 + 100 * 14 < cLine; decide +kernel⟩
  have hfr : (callerA.deeper (env20 s₁.heap.objs.size fo cd)).frames = some [env20 s₁.heap.objs.size fo cd] := Around.frames_deeper rfl
  refine law_head (ns := ns) (sa := sa) (vs := vs) tops hR pl Bd0 rfl hs hi (by rw [hi.length]; omega) ?_
  intro J h' tk rv to tc m' B' hrec m1 m2 m3
  refine law_tail (ns := ns) (g := ⟨s₁.heap, Fz.nil⟩) kf kF.kx ke kF.kv tops ks (fun _ _ q => q) pG hR hfr pl keepG (.inl hP) B' rfl hrec m1 m2 m3 ?_ ?_
  · unfold recsF numsF
    simp only [List.length_map, List.length_append, List.length_take, List.length_cons, List.length_nil]
    omega
  · intro h'' tk' keep tab
    exact good_end hC hP keep tab hr hpost rfl hg
end
section
variable {x : Str} {A Q R : List Nat} {c : Nat}
theorem at_one (x : Str) (c i : Nat) : StrLaws.At x ⟨#[c]⟩ x.length i ↔ x.cps.toList[i]? = some c := StrLaws.subAt_one x c i
theorem find_of (hx : x.cps.toList = A ++ c :: R) (hA : c ∉ A) : Txt.find x ⟨#[c]⟩ = (A.length : Int) := by
  have hat : StrLaws.At x ⟨#[c]⟩ x.length A.length := (at_one x c _).mpr (by rw [hx]; simp)
  unfold Txt.find
  rcases StrLaws.occ_head x ⟨#[c]⟩ 1 (Nat.le_refl _) with ⟨_, h⟩ | ⟨i, r, e, h1, h2⟩
  · exact (h _ hat).elim
  · rw [e]
    have : i = A.length := by
      rcases Nat.lt_trichotomy i A.length with q | q | q
      · have := (at_one x c i).mp h1
        rw [hx, List.getElem?_append_left q] at this
        exact (hA (List.mem_of_getElem? this)).elim
      · exact q
      · exact (h2 _ q hat).elim
    rw [this]
theorem find_none (h : c ∉ x.cps.toList) : Txt.find x ⟨#[c]⟩ = -1 := by
  unfold Txt.find
  rcases StrLaws.occ_head x ⟨#[c]⟩ 1 (Nat.le_refl _) with ⟨e, _⟩ | ⟨i, r, e, h1, h2⟩
  · rw [e]
  · exact (h (List.mem_of_getElem? ((at_one x c i).mp h1))).elim
theorem from_nat (n k : Nat) : fromIndex n (k : Int) = k := by unfold fromIndex; split <;> omega
theorem find3_of (hx : x.cps.toList = A ++ (Q ++ c :: R)) (hQ : c ∉ Q) : Txt.find3 x ⟨#[c]⟩ (A.length : Int) = ((A.length + Q.length : Nat) : Int) := by
  have hat : StrLaws.At x ⟨#[c]⟩ x.length (A.length + Q.length) := (at_one x c _).mpr (by rw [hx]; simp)
  unfold Txt.find3
  rw [from_nat]
  rcases StrLaws.occ_head_from x ⟨#[c]⟩ A.length 1 (Nat.le_refl _) with ⟨_, h⟩ | ⟨i, r, e, hlo, h1, h2⟩
  · exact (h _ (by omega) hat).elim
  · rw [e]
    have : i = A.length + Q.length := by
      rcases Nat.lt_trichotomy i (A.length + Q.length) with q | q | q
      · have := (at_one x c i).mp h1
        rw [hx, List.getElem?_append_right hlo, List.getElem?_append_left (by omega)] at this
        exact (hQ (List.mem_of_getElem? this)).elim
      · exact q
      · exact (h2 _ (by omega) q hat).elim
    rw [this]
theorem find3_none (hx : x.cps.toList = A ++ R) (hR : c ∉ R) : Txt.find3 x ⟨#[c]⟩ (A.length : Int) = -1 := by
  unfold Txt.find3
  rw [from_nat]
  rcases StrLaws.occ_head_from x ⟨#[c]⟩ A.length 1 (Nat.le_refl _) with ⟨e, _⟩ | ⟨i, r, e, hlo, h1, h2⟩
  · rw [e]
  · have := (at_one x c i).mp h1
    rw [hx, List.getElem?_append_right hlo] at this
    exact (hR (List.mem_of_getElem? this)).elim
theorem item_of (hx : x.cps.toList = A ++ c :: R) : Txt.item x (A.length : Int) = ⟨#[c]⟩ := by
  have : Txt.charAt x (A.length : Int) = some c := StrLaws.at_nonneg (by omega) (by
    have h1 : x.cps.toList[A.length]? = some c := by rw [hx]; simp
    simpa using h1)
  unfold Txt.item
  rw [this]
  rfl
end
/-- lists glued by a sign -/
noncomputable def joinL (c : Nat) : List (List Nat) → List Nat
  | [] => []
  | [x] => x
  | x :: y :: r => x ++ c :: joinL c (y :: r)
theorem join_list (c : Nat) : ∀ ps : List Str, (Str.join ⟨#[c]⟩ ps).cps.toList = joinL c (ps.map fun p => p.cps.toList)
  | [] => rfl
  | [x] => rfl
  | x :: y :: r => by
    show (x ++ ⟨#[c]⟩ ++ Str.join ⟨#[c]⟩ (y :: r)).cps.toList = _
    rw [Str.cps_append, Str.cps_append, Array.toList_append, Array.toList_append, join_list c (y :: r)]
    simp [joinL]
theorem split_at {c : Nat} {a b u v : List Nat} (ha : c ∉ a) (hb : c ∉ b) (h : a ++ c :: u = b ++ c :: v) : a = b ∧ u = v := by
  induction a generalizing b with
  | nil =>
    cases b with
    | nil => cases h; exact ⟨rfl, rfl⟩
    | cons y b => cases h; exact (hb List.mem_cons_self).elim
  | cons x a ih =>
    cases b with
    | nil => cases h; exact (ha List.mem_cons_self).elim
    | cons y b =>
      simp only [List.cons_append, List.cons.injEq] at h
      obtain ⟨rfl, h⟩ := h
      obtain ⟨rfl, rfl⟩ := ih (fun q => ha (List.mem_cons_of_mem _ q)) (fun q => hb (List.mem_cons_of_mem _ q)) h
      exact ⟨rfl, rfl⟩
theorem join_inj (c : Nat) : ∀ (ps qs : List (List Nat)), ps ≠ [] → qs ≠ [] → (∀ p ∈ ps, c ∉ p) → (∀ q ∈ qs, c ∉ q) → joinL c ps = joinL c qs → ps = qs
  | [], _, h, _, _, _, _ => (h rfl).elim
  | _, [], _, h, _, _, _ => (h rfl).elim
  | [p], [q], _, _, _, _, e => by rw [show p = q from e]
  | [p], q :: q' :: qs, _, _, hp, _, e => by
    have : c ∈ p := by rw [show p = q ++ c :: joinL c (q' :: qs) from e]; simp
    exact (hp p List.mem_cons_self this).elim
  | p :: p' :: ps, [q], _, _, _, hq, e => by
    have : c ∈ q := by rw [← show p ++ c :: joinL c (p' :: ps) = q from e]; simp
    exact (hq q List.mem_cons_self this).elim
  | p :: p' :: ps, q :: q' :: qs, _, _, hp, hq, e => by
    obtain ⟨rfl, h⟩ := split_at (hp p List.mem_cons_self) (hq q List.mem_cons_self) (show p ++ c :: joinL c (p' :: ps) = q ++ c :: joinL c (q' :: qs) from e)
    rw [join_inj c (p' :: ps) (q' :: qs) (by simp) (by simp) (fun x hx => hp x (List.mem_cons_of_mem _ hx)) (fun x hx => hq x (List.mem_cons_of_mem _ hx)) h]
theorem split_ne (x y : Str) : Txt.split x y ≠ [] := by
  unfold Txt.split
  split
  · simp
  split
  · simp
  · rw [StrLaws.partsBetween_eq]
    obtain ⟨p, r, e⟩ := StrLaws.partsFrom_ne x y.length 0 (Builtin.Str.occurrences x y 0 x.length (x.length + 1))
    rw [e]; simp
/-- a text cut at a sign, told by its pieces -/
theorem split_of {x : Str} {c : Nat} {qs : List (List Nat)} (hne : qs ≠ []) (hq : ∀ q ∈ qs, c ∉ q) (hx : x.cps.toList = joinL c qs) : (Txt.split x ⟨#[c]⟩).map (fun p => p.cps.toList) = qs := by
  refine join_inj c _ _ (by simpa using split_ne x ⟨#[c]⟩) hne ?_ hq ?_
  · intro p hp
    obtain ⟨s, hs, rfl⟩ := List.mem_map.mp hp
    exact StrLaws.split_free x c s hs
  · rw [← join_list, StrLaws.join_split, hx]
theorem slice_mid {x : Str} {A Q R : List Nat} (hx : x.cps.toList = A ++ (Q ++ R)) : (Txt.slice x (some (A.length : Int)) (some ((A.length + Q.length : Nat) : Int))).cps.toList = Q := by
  have := StrLaws.sliceText_nat x (a := A.length) (b := A.length + Q.length) (by omega) (by show _ ≤ x.cps.size; rw [← Array.length_toList, hx]; simp)
  rw [show Txt.slice x (some (A.length : Int)) (some ((A.length + Q.length : Nat) : Int)) = _ from this, hx]
  simp
theorem slice_pre {x : Str} {A R : List Nat} (hx : x.cps.toList = A ++ R) : (Txt.slice x none (some (A.length : Int))).cps.toList = A := by
  have := StrLaws.sliceText_to (x := x) (j := (A.length : Int)) ⟨by omega, by rw [hx, List.length_append]; omega⟩
  rw [show Txt.slice x none (some (A.length : Int)) = _ from this, hx]
  simp
theorem slice_post {x : Str} {A R : List Nat} (hx : x.cps.toList = A ++ R) : (Txt.slice x (some (A.length : Int)) none).cps.toList = R := by
  have := StrLaws.sliceText_from (x := x) (i := (A.length : Int)) ⟨by omega, by rw [hx, List.length_append]; omega⟩
  rw [show Txt.slice x (some (A.length : Int)) none = _ from this, hx]
  rw [show (((A ++ R).length : Nat) : Int) - (A.length : Int) = (R.length : Int) by rw [List.length_append]; omega]
  simp
theorem str_ext {a b : Str} (h : a.cps.toList = b.cps.toList) : a = b := Str.ext' (Array.toList_inj.mp h)
theorem str_ne {a b : Str} (h : a.cps.toList ≠ b.cps.toList) : (a != b) = true := by
  have : a ≠ b := fun q => h (by rw [q])
  simpa using this
section
variable {x : Str} {A Q R : List Nat} {q0 q1 : Nat}
noncomputable def l229 : List Nat := [50, 50, 57]
theorem o229 : (Str.ofString "229").cps.toList = l229 := by decide +kernel
theorem oOpen : Str.ofString "(" = ⟨#[40]⟩ := by decide +kernel
theorem oClose : Str.ofString ")" = ⟨#[41]⟩ := by decide +kernel
theorem code_ok (hx : ∃ S, x.cps.toList = l229 ++ S) : (Txt.slice x none (some 3) != Str.ofString "229") = false := by
  obtain ⟨S, hx⟩ := hx
  have h1 : (Txt.slice x none (some 3)).cps.toList = l229 := slice_pre (A := l229) hx
  rw [str_ext (h1.trans o229.symm)]
  simp
theorem code_bad {B : List Nat} (hx : ∃ S, x.cps.toList = B ++ S) (hB : B.length = 3) (hne : B ≠ l229) : parseF x = .code := by
  obtain ⟨S, hx⟩ := hx
  have h1 : (Txt.slice x none (some 3)).cps.toList = B := by have := slice_pre (A := B) hx; rwa [hB] at this
  exact parse_0 (str_ne (by rw [h1, o229]; exact hne))
theorem left_of (hx : x.cps.toList = A ++ 40 :: R) (hA : 40 ∉ A) : leftF x = (A.length : Int) := by unfold leftF; rw [oOpen]; exact find_of hx hA
theorem left_none (h : 40 ∉ x.cps.toList) : leftF x = -1 := by unfold leftF; rw [oOpen]; exact find_none h
theorem right_of (hx : x.cps.toList = A ++ 40 :: (Q ++ 41 :: R)) (hA : 40 ∉ A) (hQ : 41 ∉ Q) : rightF x = ((A.length + 1 + Q.length : Nat) : Int) := by
  unfold rightF
  rw [left_of hx hA, oClose]
  have hx' : x.cps.toList = (A ++ [40]) ++ (Q ++ 41 :: R) := by rw [hx]; simp
  have := find3_of hx' hQ
  simpa using this
theorem right_none (hx : x.cps.toList = A ++ 40 :: Q) (hA : 40 ∉ A) (hQ : 41 ∉ Q) : rightF x = -1 := by
  unfold rightF
  rw [left_of hx hA, oClose]
  have hx' : x.cps.toList = (A ++ [40]) ++ Q := by rw [hx]; simp
  have := find3_none hx' hQ
  simpa using this
theorem first_of (hx : x.cps.toList = A ++ 40 :: (q0 :: Q)) (hA : 40 ∉ A) : chr1 x (leftF x + 1) = ⟨#[q0]⟩ := by
  rw [left_of hx hA]
  have hx' : x.cps.toList = (A ++ [40]) ++ q0 :: Q := by rw [hx]; simp
  have := item_of hx'
  simpa using this
theorem last_of (hx : x.cps.toList = A ++ 40 :: ((Q ++ [q1]) ++ 41 :: R)) (hA : 40 ∉ A) (hQ : 41 ∉ Q ++ [q1]) : chr1 x (rightF x - 1) = ⟨#[q1]⟩ := by
  rw [right_of hx hA hQ]
  have hx' : x.cps.toList = (A ++ 40 :: Q) ++ q1 :: (41 :: R) := by rw [hx]; simp
  have := item_of hx'
  rw [show ((A.length + 1 + (Q ++ [q1]).length : Nat) : Int) - 1 = (((A ++ 40 :: Q).length : Nat) : Int) by simp; omega]
  exact this
theorem parts_of {qs : List (List Nat)} (hx : x.cps.toList = A ++ 40 :: (Q ++ 41 :: R)) (hA : 40 ∉ A) (hQ : 41 ∉ Q) (hf : chr1 x (leftF x + 1) = ⟨#[q0]⟩) (hne : qs ≠ []) (hq : ∀ q ∈ qs, q0 ∉ q) (hj : Q = joinL q0 qs) : (partsOf x).map (fun p => p.cps.toList) = qs := by
  unfold partsOf
  rw [hf]
  refine split_of hne hq ?_
  rw [left_of hx hA, right_of hx hA hQ, ← hj]
  have hx' : x.cps.toList = (A ++ [40]) ++ (Q ++ 41 :: R) := by rw [hx]; simp
  have := slice_mid hx'
  simpa using this
end
noncomputable def PlainC (c : Nat) : Prop := c ≠ 33 ∧ c ≠ 40 ∧ c ≠ 41 ∧ c ≠ 120 ∧ c ≠ 124 ∧ c < 256
noncomputable def plainB (c : Nat) : Bool := c != 33 && c != 40 && c != 41 && c != 120 && c != 124 && decide (c < 256)
theorem plain_of {c : Nat} (h : plainB c = true) : PlainC c := by
  unfold plainB at h
  simp only [Bool.and_eq_true, bne_iff_ne, ne_eq, decide_eq_true_eq] at h
  obtain ⟨⟨⟨⟨⟨a, b⟩, c⟩, d⟩, e⟩, f⟩ := h
  exact ⟨a, b, c, d, e, f⟩
theorem plain_list {l : List Nat} (h : l.all plainB = true) : ∀ a ∈ l, PlainC a := fun a ha => plain_of (List.all_eq_true.mp h a ha)
/-- what lies ahead of the bracket -/
noncomputable def preL (ch : Nat) : List Nat := l229 ++ [32, 112, ch, 114, 116, 41, 32]
section
variable {x : Str} {ch m : Nat} {O F R : List Nat}
theorem pre_no (hc : ch ≠ 40) : 40 ∉ preL ch := by unfold preL l229; simp; omega
theorem no_of {c : Nat} (h : ∀ a ∈ F, PlainC a) (hc : c = 33 ∨ c = 41 ∨ c = 120 ∨ c = 124) : c ∉ F := fun q => by
  obtain ⟨a1, a2, a3, a4, a5, _⟩ := h c q
  omega
noncomputable def bodyL (m : Nat) (O F : List Nat) : List Nat := m :: m :: (O ++ m :: (F ++ [m]))
theorem body_join : bodyL m O F = joinL m [[], [], O, F, []] := by simp [bodyL, joinL]
theorem body_no (hm : m = 33 ∨ m = 120 ∨ m = 124) (hO : ∀ a ∈ O, PlainC a) (hF : ∀ a ∈ F, PlainC a) : 41 ∉ bodyL m O F := by
  have h1 := no_of hO (c := 41) (by omega)
  have h2 := no_of hF (c := 41) (by omega)
  unfold bodyL
  simp only [List.mem_cons, List.mem_append, not_or, List.not_mem_nil, not_false_eq_true, and_true]
  refine ⟨by omega, by omega, h1, by omega, h2, by omega⟩
theorem qs_free (hm : m = 33 ∨ m = 120 ∨ m = 124) (hO : ∀ a ∈ O, PlainC a) (hF : ∀ a ∈ F, PlainC a) : ∀ q ∈ [[], [], O, F, []], m ∉ q := by
  intro q hq
  simp only [List.mem_cons, List.not_mem_nil, or_false] at hq
  rcases hq with rfl | rfl | rfl | rfl | rfl
  · simp
  · simp
  · exact no_of hO (by omega)
  · exact no_of hF (by omega)
  · simp
/-- a whole reply -/
theorem whole_parts (hx : x.cps.toList = preL ch ++ 40 :: (bodyL m O F ++ 41 :: R)) (hc : ch ≠ 40) (hm : m = 33 ∨ m = 120 ∨ m = 124) (hO : ∀ a ∈ O, PlainC a) (hF : ∀ a ∈ F, PlainC a) : (partsOf x).map (fun p => p.cps.toList) = [[], [], O, F, []] :=
  parts_of hx (pre_no hc) (body_no hm hO hF) (first_of (q0 := m) (Q := m :: (O ++ m :: (F ++ [m])) ++ 41 :: R) (by rw [hx]; simp [bodyL]) (pre_no hc)) (by simp) (qs_free hm hO hF) body_join
theorem whole_parse (hx : x.cps.toList = preL ch ++ 40 :: (bodyL m O F ++ 41 :: R)) (hc : ch ≠ 40) (hm : m = 33 ∨ m = 120 ∨ m = 124) (hO : ∀ a ∈ O, PlainC a) (hF : ∀ a ∈ F, PlainC a) :
    parseF x = match PySem.intText? ⟨F.toArray⟩ with | some n => .port n | none => .bad := by
  have hp := whole_parts hx hc hm hO hF
  have hno := body_no hm hO hF
  have e1 := left_of hx (pre_no hc)
  have e2 := right_of hx (pre_no hc) hno
  have f1 : chr1 x (leftF x + 1) = ⟨#[m]⟩ := first_of (Q := m :: (O ++ m :: (F ++ [m])) ++ 41 :: R) (by rw [hx]; simp [bodyL]) (pre_no hc)
  have eb : bodyL m O F = (m :: m :: (O ++ m :: F)) ++ [m] := by simp [bodyL]
  have f2 : chr1 x (rightF x - 1) = ⟨#[m]⟩ := last_of (Q := m :: m :: (O ++ m :: F)) (by rw [hx, eb]) (pre_no hc) (by rw [← eb]; exact hno)
  have hl : (partsOf x).length = 5 := by have := congrArg List.length hp; simpa using this
  rw [parse_5 (code_ok ⟨_, by rw [hx]; unfold preL; rw [List.append_assoc]⟩) (by rw [e1]; omega) (by rw [e2]; omega) (by rw [f1, f2]; simp) (by rw [hl]; simp)]
  have h3 : (partsOf x).getD 3 (Str.ofString "") = ⟨F.toArray⟩ := by
    match hq : partsOf x, hl with
    | [a0, a1, a2, a3, a4], _ =>
      rw [hq] at hp
      simp only [List.map_cons, List.map_nil, List.cons.injEq, and_true] at hp
      exact str_ext (by simpa using hp.2.2.2.1)
  rw [h3]
  all_goals (cases PySem.intText? ⟨F.toArray⟩ <;> rfl)
theorem proto_open (hx : ∃ S, x.cps.toList = l229 ++ S) (h : 40 ∉ x.cps.toList) : parseF x = .proto := parse_1 (code_ok hx) (by rw [left_none h]; decide)
theorem proto_close {Q : List Nat} (hx : x.cps.toList = preL ch ++ 40 :: Q) (hc : ch ≠ 40) (hQ : 41 ∉ Q) : parseF x = .proto :=
  parse_2 (code_ok ⟨_, by rw [hx]; unfold preL; rw [List.append_assoc]⟩) (by rw [left_of hx (pre_no hc)]; omega) (by rw [right_none hx (pre_no hc) hQ]; decide)
theorem proto_mark {Q : List Nat} {q0 q1 : Nat} {Q' : List Nat} (hx : x.cps.toList = preL ch ++ 40 :: ((Q ++ [q1]) ++ 41 :: R)) (hc : ch ≠ 40) (hQ : 41 ∉ Q ++ [q1]) (h0 : Q ++ [q1] = q0 :: Q') (hne : q0 ≠ q1) : parseF x = .proto := by
  have f1 : chr1 x (leftF x + 1) = ⟨#[q0]⟩ := first_of (Q := Q' ++ 41 :: R) (by rw [hx, h0]; rfl) (pre_no hc)
  have f2 := last_of hx (pre_no hc) hQ
  refine parse_3 (code_ok ⟨_, by rw [hx]; unfold preL; rw [List.append_assoc]⟩) (by rw [left_of hx (pre_no hc)]; omega) (by rw [right_of hx (pre_no hc) hQ]; omega) ?_
  rw [f1, f2]
  exact str_ne (by simpa using hne)
theorem proto_parts {Q : List Nat} {q0 : Nat} {Q' : List Nat} {qs : List (List Nat)} (hx : x.cps.toList = preL ch ++ 40 :: ((Q ++ [q0]) ++ 41 :: R)) (hc : ch ≠ 40) (hQ : 41 ∉ Q ++ [q0]) (h0 : Q ++ [q0] = q0 :: Q') (hne : qs ≠ []) (hq : ∀ q ∈ qs, q0 ∉ q) (hj : Q ++ [q0] = joinL q0 qs) (hl : qs.length ≠ 5) : parseF x = .proto := by
  have f1 : chr1 x (leftF x + 1) = ⟨#[q0]⟩ := first_of (Q := Q' ++ 41 :: R) (by rw [hx, h0]; rfl) (pre_no hc)
  have f2 := last_of hx (pre_no hc) hQ
  have hp := parts_of hx (pre_no hc) hQ f1 hne hq hj
  refine parse_4 (code_ok ⟨_, by rw [hx]; unfold preL; rw [List.append_assoc]⟩) (by rw [left_of hx (pre_no hc)]; omega) (by rw [right_of hx (pre_no hc) hQ]; omega) (by rw [f1, f2]; simp) ?_
  have := congrArg List.length hp
  rw [List.length_map] at this
  rw [this]; exact hl
end
theorem part_le {x y : Str} : ∀ p ∈ Txt.split x y, p.length ≤ x.length := by
  have key : ∀ (ps : List Str) (p : Str), p ∈ ps → p.length ≤ (Str.join y ps).length := by
    intro ps
    induction ps with
    | nil => intro p hp; cases hp
    | cons a r ih =>
      intro p hp
      cases r with
      | nil => rw [List.mem_singleton.mp hp]; exact Nat.le_refl _
      | cons b r =>
        show _ ≤ (a ++ y ++ Str.join y (b :: r)).length
        rw [Str.length_append, Str.length_append]
        rcases List.mem_cons.mp hp with rfl | hp
        · omega
        · have := ih p hp; omega
  intro p hp
  have := key _ _ hp
  rwa [StrLaws.join_split] at this
noncomputable def fieldChk (x : Str) : Bool := x.cps.toList.all plainB && (PySem.intText? x == numF x) && decide (x.length ≤ 40) && ((numSeenOf x).length == (numTextOf x).length) && (match numF x with | none => true | some n => decide (-19 ≤ n) && decide (n ≤ 19))
theorem field_chk : ∀ a < 4, ∀ b < 8, ∀ c < 8, fieldChk (fieldOf a b c) = true := by decide +kernel
theorem opt_chk : ∀ k < 2, (fun x : Str => x.cps.toList.all plainB && decide (x.length ≤ 40) && ((numSeenOf x).length == (numTextOf x).length)) ((["", "2"] : List Str).getD k (Str.ofString "")) = true := by decide +kernel
theorem empty_chk : ((numSeenOf ⟨#[]⟩).length == (numTextOf ⟨#[]⟩).length) = true := by decide +kernel
theorem mark_chk : ∀ k < 8, ((markF ((k : Nat) : Int)).cps.toList == [[124, 33, 120, 124, 33, 124, 124, 33].getD k 0]) = true := by decide +kernel
theorem end_chk : ∀ k < 3, ((([")", ") (|||7|)", "))"] : List Str).getD k (Str.ofString "")).cps.toList == 41 :: ([[], [32, 40, 124, 124, 124, 55, 124, 41], [41]] : List (List Nat)).getD k []) = true := by decide +kernel
theorem lit1 : (Str.ofString "229 p").cps.toList = [50, 50, 57, 32, 112] := by decide +kernel
theorem lit2 : (Str.ofString "rt) (").cps.toList = [114, 116, 41, 32, 40] := by decide +kernel
theorem lit3 : (Str.ofString "228").cps.toList = [50, 50, 56] := by decide +kernel
theorem lit4 : (Str.ofString "229 2").cps.toList = [50, 50, 57, 32, 50] := by decide +kernel
theorem lit5 : (Str.ofString "2)").cps.toList = [50, 41] := by decide +kernel
theorem lit6 : (Str.ofString ".").cps.toList = [46] := by decide +kernel
theorem lit7 : (Str.ofString "?").cps.toList = [63] := by decide +kernel
/-- what a record must be like -/
structure Good (r : Rec) : Prop where
  len : r.row.reply.length ≤ 255
  cps : ∀ c ∈ r.row.reply.cps.toList, c < 256
  fine : Fine r.row.reply
  body : match r.row with
    | .three a b c => a = c ∧ r.parts = [strPart a] ∧ ((b = Str.ofString "another code" ∧ parseF a = .code) ∨ (b = Str.ofString "no port" ∧ parseF a = .proto))
    | .two a b => b = Str.ofString "no number" ∧ r.parts = [strPart a] ∧ parseF a = .bad
    | .num a n => parseF a = .port n ∧ -19 ≤ n ∧ n ≤ 19 ∧ ∃ d, r.parts = strPart a :: partsF n d
theorem fine_of {x : Str} (hl : x.length ≤ 255) (hb : parseF x = .bad → ∀ q ∈ partsOf x, q.length ≤ 40 ∧ (∀ c ∈ q.cps.toList, c < 16 ^ 8) ∧ ((numSeenOf q).length == (numTextOf q).length) = true) (hn : ∀ n, parseF x = .port n → -100 ≤ n ∧ n ≤ 100) : Fine x where
  bad := fun q hq h => hb h q hq
  len := fun q hq => by
    have h1 := part_le q hq
    have h2 := Txt.slice_le x (some (leftF x + 1)) (some (rightF x))
    omega
  num := hn
noncomputable def optF (d : Int) : Str := (["", "2"] : List Str).getD ((d.fdiv 3).fmod 2).toNat (Str.ofString "")
noncomputable def chF (d : Int) : Nat := (255 - d.fmod 128).toNat
theorem head_list {kd d : Int} {m : Nat} (hM : (markF kd).cps.toList = [m]) : (headF kd d).cps.toList = preL (chF d) ++ 40 :: bodyL m (optF d).cps.toList (fieldF d).cps.toList := by
  show (Str.ofString "229 p" ++ ⟨#[chF d]⟩ ++ Str.ofString "rt) (" ++ markF kd ++ markF kd ++ optF d ++ markF kd ++ fieldF d ++ markF kd).cps.toList = _
  simp only [Str.cps_append, Array.toList_append, hM, lit1, lit2]
  simp [preL, l229, bodyL]
structure LaidR (kd d : Int) (m : Nat) (O F R : List Nat) (x : Str) : Prop where
  ch : chF d ≠ 40 ∧ chF d < 256
  mk1 : m = 33 ∨ m = 120 ∨ m = 124
  mk5 : 5 < kd → m = 33 ∨ m = 124
  hM : (markF kd).cps.toList = [m]
  hO : (optF d).cps.toList = O ∧ ∀ a ∈ O, PlainC a
  hF : (fieldF d).cps.toList = F ∧ ∀ a ∈ F, PlainC a
  hE : (endF d).cps.toList = 41 :: R ∧ ∀ a ∈ R, a < 256
  hx : fieldF d = x ∧ fieldChk x = true
theorem laid_ok {kd d : Int} (hk : 0 ≤ kd ∧ kd < 8) (hd : 0 ≤ d ∧ d < 768) : ∃ m O F R x, LaidR kd d m O F R x := by
  obtain ⟨a, b, c, ha, hb, hc, e⟩ := field_of d
  have hf := field_chk a ha b hb c hc
  rw [← e] at hf
  have hF : (fieldF d).cps.toList.all plainB = true := by
    unfold fieldChk at hf
    simp only [Bool.and_eq_true] at hf
    exact hf.1.1.1.1
  have f2 : 0 ≤ (d.fdiv 3).fmod 2 ∧ (d.fdiv 3).fmod 2 < 2 := ⟨Int.fmod_nonneg_of_pos _ (by decide), Int.fmod_lt_of_pos _ (by decide)⟩
  have hO := opt_chk ((d.fdiv 3).fmod 2).toNat (by omega)
  simp only [Bool.and_eq_true] at hO
  have f128 : 0 ≤ d.fmod 128 ∧ d.fmod 128 < 128 := ⟨Int.fmod_nonneg_of_pos _ (by decide), Int.fmod_lt_of_pos _ (by decide)⟩
  have f256 : 0 ≤ d.fdiv 256 ∧ d.fdiv 256 < 3 := by rw [Int.fdiv_eq_ediv_of_nonneg _ (by decide)]; omega
  have hE := end_chk (d.fdiv 256).toNat (by omega)
  have hM := mark_chk kd.toNat (by omega)
  rw [Int.toNat_of_nonneg hk.1] at hM
  have hm : ∀ k < 8, (([124, 33, 120, 124, 33, 124, 124, 33].getD k 0 = 33 ∨ [124, 33, 120, 124, 33, 124, 124, 33].getD k 0 = 120 ∨ [124, 33, 120, 124, 33, 124, 124, 33].getD k 0 = 124) ∧ (5 < k → [124, 33, 120, 124, 33, 124, 124, 33].getD k 0 = 33 ∨ [124, 33, 120, 124, 33, 124, 124, 33].getD k 0 = 124)) := by decide
  have hR : ∀ k < 3, ∀ a ∈ ([[], [32, 40, 124, 124, 124, 55, 124, 41], [41]] : List (List Nat)).getD k [], a < 256 := by decide
  exact ⟨_, _, _, _, _, ⟨by unfold chF; omega, by unfold chF; omega⟩, (hm kd.toNat (by omega)).1, fun q => (hm kd.toNat (by omega)).2 (by omega), eq_of_beq hM, ⟨rfl, plain_list hO.1.1⟩, ⟨rfl, plain_list hF⟩, ⟨eq_of_beq hE, hR _ (by omega)⟩, rfl, hf⟩
theorem lt_plain {l : List Nat} (h : ∀ a ∈ l, PlainC a) : ∀ a ∈ l, a < 256 := fun a ha => (h a ha).2.2.2.2.2
theorem body_lt {m : Nat} {O F : List Nat} (hm : m = 33 ∨ m = 120 ∨ m = 124) (hO : ∀ a ∈ O, PlainC a) (hF : ∀ a ∈ F, PlainC a) : ∀ a ∈ bodyL m O F, a < 256 := by
  intro a ha
  unfold bodyL at ha
  simp only [List.mem_cons, List.mem_append, List.not_mem_nil, or_false] at ha
  rcases ha with h | h | h | h | h | h
  · omega
  · omega
  · exact lt_plain hO a h
  · omega
  · exact lt_plain hF a h
  · omega
theorem pre_lt {ch : Nat} (h : ch < 256) : ∀ a ∈ preL ch, a < 256 := by
  intro a ha
  unfold preL l229 at ha
  simp only [List.mem_cons, List.mem_append, List.not_mem_nil, or_false] at ha
  omega
theorem reply_len {kd d : Int} : (replyOf kd d (headF kd d) (fieldF d) (markF kd) (endF d)).length ≤ 255 := by
  have h1 := head_len kd d
  have h2 := field_len d
  have h3 := mark_len kd
  have h4 := end_len d
  have s1 := Txt.slice_le (headF kd d) (some 3) none
  have s2 := Txt.slice_le (headF kd d) none (some (-((fieldF d).length : Int) - 1))
  have z1 : (Str.ofString "228").length = 3 := by decide +kernel
  have z2 : (Str.ofString ".").length = 1 := by decide +kernel
  have z3 : (Str.ofString "?").length = 1 := by decide +kernel
  have z4 : (Str.ofString "229 2").length = 5 := by decide +kernel
  have z5 : (Str.ofString "2)").length = 2 := by decide +kernel
  unfold replyOf
  split
  · simp only [Str.length_append]; omega
  split
  · refine Nat.le_trans (getD_len (n := 60) ?_) (by decide)
    intro x hx
    simp only [List.mem_cons, List.not_mem_nil, or_false] at hx
    rcases hx with rfl | rfl | rfl | rfl | rfl <;> simp only [Str.length_append] <;> omega
  · simp only [Str.length_append]; omega
/-- a reply that tells a port, or none -/
theorem good_whole {kd d : Int} {m : Nat} {O F R : List Nat} {x : Str} (L : LaidR kd d m O F R x) (h5 : kd < 5) : Good (recOf kd d (replyOf kd d (headF kd d) (fieldF d) (markF kd) (endF d)) (numF (fieldF d))) := by
  have hlen := reply_len (kd := kd) (d := d)
  have e : replyOf kd d (headF kd d) (fieldF d) (markF kd) (endF d) = headF kd d ++ endF d := by unfold replyOf; rw [if_neg (by omega), if_neg (by omega)]
  rw [e] at hlen ⊢
  have hl : (headF kd d ++ endF d).cps.toList = preL (chF d) ++ 40 :: (bodyL m O F ++ 41 :: R) := by
    rw [Str.cps_append, Array.toList_append, head_list L.hM, L.hO.1, L.hF.1, L.hE.1]; simp
  generalize headF kd d ++ endF d = y at hl hlen ⊢
  have hp := whole_parse hl L.ch.1 L.mk1 L.hO.2 L.hF.2
  have hps := whole_parts hl L.ch.1 L.mk1 L.hO.2 L.hF.2
  have hc := L.hx.2
  unfold fieldChk at hc
  simp only [Bool.and_eq_true] at hc
  obtain ⟨⟨⟨⟨c1, c2⟩, c3⟩, c4⟩, c5⟩ := hc
  have hx : (⟨F.toArray⟩ : Str) = x := by rw [← L.hx.1]; exact str_ext (by simp [L.hF.1])
  rw [hx, eq_of_beq c2] at hp
  have hcps : ∀ c ∈ y.cps.toList, c < 256 := by
    intro c hcm
    rw [hl] at hcm
    simp only [List.mem_append, List.mem_cons] at hcm
    rcases hcm with h | h | h | h | h
    · exact pre_lt L.ch.2 c h
    · omega
    · exact body_lt L.mk1 L.hO.2 L.hF.2 c h
    · omega
    · exact L.hE.2 c h
  have hnum : ∀ n, numF x = some n → -19 ≤ n ∧ n ≤ 19 := fun n hn => by
    rw [hn] at c5
    simp only [Bool.and_eq_true, decide_eq_true_eq] at c5
    exact c5
  have hrow : (recOf kd d y (numF (fieldF d))).row = match numF x with | none => .two y (Str.ofString "no number") | some n => .num y n := by
    unfold recOf rowOf; dsimp only; rw [if_neg (by omega), if_neg (by omega), L.hx.1]
    all_goals (cases numF x <;> rfl)
  have hparts : (recOf kd d y (numF (fieldF d))).parts = strPart y :: (match numF x with | none => [] | some n => partsF n d) := by
    unfold recOf; dsimp only; rw [if_pos h5, L.hx.1]
    all_goals (cases numF x <;> rfl)
  have hrep : (recOf kd d y (numF (fieldF d))).row.reply = y := by rw [hrow]; cases numF x <;> rfl
  have hfine : Fine y := by
    refine fine_of hlen (fun hb q hq => ?_) (fun n hn => ?_)
    · have hq' : q.cps.toList ∈ [[], [], O, F, []] := by rw [← hps]; exact List.mem_map_of_mem hq
      have f2 : 0 ≤ (d.fdiv 3).fmod 2 ∧ (d.fdiv 3).fmod 2 < 2 := ⟨Int.fmod_nonneg_of_pos _ (by decide), Int.fmod_lt_of_pos _ (by decide)⟩
      have hO := opt_chk ((d.fdiv 3).fmod 2).toNat (by omega)
      simp only [Bool.and_eq_true] at hO
      have em : q.cps.toList = [] → q.length ≤ 40 ∧ (∀ c ∈ q.cps.toList, c < 16 ^ 8) ∧ ((numSeenOf q).length == (numTextOf q).length) = true := fun h => by
        have : q = ⟨#[]⟩ := str_ext (by simpa using h)
        rw [this]
        exact ⟨by decide, by simp, empty_chk⟩
      have lt : ∀ {l : List Nat}, (∀ a ∈ l, PlainC a) → ∀ c ∈ l, c < 16 ^ 8 := fun h c hc => Nat.lt_trans (lt_plain h c hc) (by decide)
      simp only [List.mem_cons, List.not_mem_nil, or_false] at hq'
      rcases hq' with h | h | h | h | h
      · exact em h
      · exact em h
      · have : q = optF d := str_ext (by rw [h, L.hO.1])
        rw [this]
        exact ⟨of_decide_eq_true hO.1.2, by rw [L.hO.1]; exact lt L.hO.2, hO.2⟩
      · have : q = x := by rw [← L.hx.1]; exact str_ext (by rw [h, L.hF.1])
        rw [this]
        exact ⟨of_decide_eq_true c3, by rw [← L.hx.1, L.hF.1]; exact lt L.hF.2, c4⟩
      · exact em h
    · rw [hp] at hn
      cases hq : numF x with
      | none => rw [hq] at hn; cases hn
      | some k => rw [hq] at hn; cases hn; have := hnum _ hq; omega
  refine ⟨by rw [hrep]; exact hlen, by rw [hrep]; exact hcps, by rw [hrep]; exact hfine, ?_⟩
  rw [hrow, hparts]
  cases hq : numF x with
  | none => rw [hq] at hp; exact ⟨rfl, rfl, hp⟩
  | some n => rw [hq] at hp; exact ⟨hp, (hnum n hq).1, (hnum n hq).2, d, rfl⟩
theorem slice_neg {x : Str} {A R : List Nat} (hx : x.cps.toList = A ++ R) (hR : R ≠ []) : (Txt.slice x none (some (-(R.length : Int)))).cps.toList = A := by
  have hl : x.length = A.length + R.length := by show x.cps.size = _; rw [← Array.length_toList, hx, List.length_append]
  have h0 : 0 < R.length := List.length_pos_iff.mpr hR
  have e : Txt.slice x none (some (-(R.length : Int))) = Txt.slice x none (some (A.length : Int)) := by
    have := StrLaws.sliceText_neg_hi x none (j := -(R.length : Int)) (by omega) (by omega)
    rw [show -(R.length : Int) + (x.length : Int) = (A.length : Int) by omega] at this
    exact this
  rw [e]
  exact slice_pre hx
theorem good_three {kd d : Int} {y b : Str} {n : Option Int} (hrow : rowOf kd y n = .three y b y) (hk : ¬ kd < 5) (hl : y.length ≤ 255) (hc : ∀ c ∈ y.cps.toList, c < 256) (hb : (b = Str.ofString "another code" ∧ parseF y = .code) ∨ (b = Str.ofString "no port" ∧ parseF y = .proto)) : Good (recOf kd d y n) := by
  have h1 : (recOf kd d y n).row = .three y b y := hrow
  have h2 : (recOf kd d y n).parts = [strPart y] := by unfold recOf; dsimp only; rw [if_neg hk]
  have hrep : (recOf kd d y n).row.reply = y := by rw [h1]; rfl
  have hf : Fine y := fine_of hl (fun h => by rcases hb with ⟨_, q⟩ | ⟨_, q⟩ <;> rw [q] at h <;> cases h) (fun n h => by rcases hb with ⟨_, q⟩ | ⟨_, q⟩ <;> rw [q] at h <;> cases h)
  refine ⟨by rw [hrep]; exact hl, by rw [hrep]; exact hc, by rw [hrep]; exact hf, ?_⟩
  rw [h1, h2]
  exact ⟨rfl, rfl, hb⟩
section
variable {kd d : Int} {m : Nat} {O F R : List Nat} {x : Str}
theorem good_code (L : LaidR kd d m O F R x) (h5 : kd = 5) : Good (recOf kd d (replyOf kd d (headF kd d) (fieldF d) (markF kd) (endF d)) (numF (fieldF d))) := by
  have hlen := reply_len (kd := kd) (d := d)
  have e : replyOf kd d (headF kd d) (fieldF d) (markF kd) (endF d) = Str.ofString "228" ++ Txt.slice (headF kd d) (some 3) none ++ endF d := by unfold replyOf; rw [if_pos h5]
  have hh : (headF kd d).cps.toList = l229 ++ ([32, 112, chF d, 114, 116, 41, 32] ++ 40 :: bodyL m O F) := by rw [head_list L.hM, L.hO.1, L.hF.1]; simp [preL]
  have hs : (Txt.slice (headF kd d) (some 3) none).cps.toList = [32, 112, chF d, 114, 116, 41, 32] ++ 40 :: bodyL m O F := by
    have := slice_post (A := l229) hh
    rwa [show ((l229.length : Nat) : Int) = 3 from rfl] at this
  obtain ⟨y, hy⟩ : ∃ y, y = replyOf kd d (headF kd d) (fieldF d) (markF kd) (endF d) := ⟨_, rfl⟩
  rw [← hy] at hlen ⊢
  have hl : y.cps.toList = [50, 50, 56] ++ (([32, 112, chF d, 114, 116, 41, 32] ++ 40 :: bodyL m O F) ++ 41 :: R) := by
    rw [hy, e, Str.cps_append, Str.cps_append, Array.toList_append, Array.toList_append, lit3, hs, L.hE.1, List.append_assoc]
  clear hy e hs hh
  have hcode : parseF y = .code := code_bad (B := [50, 50, 56]) ⟨_, hl⟩ rfl (by decide)
  refine good_three (b := Str.ofString "another code") (by unfold rowOf; rw [if_pos h5]) (by omega) hlen ?_ (.inl ⟨rfl, hcode⟩)
  intro c hcm
  rw [hl] at hcm
  simp only [List.mem_append, List.mem_cons, List.not_mem_nil, or_false] at hcm
  have h1 := L.ch.2
  generalize chF d = ch at h1 hcm
  rcases hcm with h | (h | h | h) | h | h
  · omega
  · omega
  · omega
  · exact body_lt L.mk1 L.hO.2 L.hF.2 c h
  · omega
  · exact L.hE.2 c h
theorem proto_lt {y : Str} {Q T : List Nat} (L : LaidR kd d m O F R x) (hl : y.cps.toList = preL (chF d) ++ 40 :: (Q ++ T)) (hQ : ∀ a ∈ Q, a < 256) (hT : ∀ a ∈ T, a < 256) : ∀ c ∈ y.cps.toList, c < 256 := by
  intro c hc
  rw [hl] at hc
  simp only [List.mem_append, List.mem_cons] at hc
  rcases hc with h | h | h | h
  · exact pre_lt L.ch.2 c h
  · omega
  · exact hQ c h
  · exact hT c h
theorem good_proto (L : LaidR kd d m O F R x) (h5 : 5 < kd) : Good (recOf kd d (replyOf kd d (headF kd d) (fieldF d) (markF kd) (endF d)) (numF (fieldF d))) := by
  have hlen := reply_len (kd := kd) (d := d)
  have hH : (headF kd d).cps.toList = preL (chF d) ++ 40 :: bodyL m O F := by rw [head_list L.hM, L.hO.1, L.hF.1]
  have f5 : 0 ≤ d.fmod 5 ∧ d.fmod 5 < 5 := ⟨Int.fmod_nonneg_of_pos _ (by decide), Int.fmod_lt_of_pos _ (by decide)⟩
  have e : replyOf kd d (headF kd d) (fieldF d) (markF kd) (endF d) = ([headF kd d ++ Str.ofString ".", headF kd d ++ markF kd ++ endF d, headF kd d ++ Str.ofString "?" ++ endF d, Txt.slice (headF kd d) none (some (-((fieldF d).length : Int) - 1)) ++ endF d, Str.ofString "229 2" ++ fieldF d ++ Str.ofString "2)"] : List Str).getD (d.fmod 5).toNat (Str.ofString "") := by unfold replyOf; rw [if_neg (by omega), if_pos h5]
  have hm := L.mk5 h5
  have hno := body_no L.mk1 L.hO.2 L.hF.2
  have hbl := body_lt L.mk1 L.hO.2 L.hF.2
  have hRl : ∀ a ∈ 41 :: R, a < 256 := by
    intro a ha
    rcases List.mem_cons.mp ha with rfl | ha
    · decide
    · exact L.hE.2 a ha
  have key : ∀ y, y = replyOf kd d (headF kd d) (fieldF d) (markF kd) (endF d) → (∀ c ∈ y.cps.toList, c < 256) ∧ parseF y = .proto := by
    intro y hy
    rw [e] at hy
    generalize hk5 : (d.fmod 5).toNat = k5 at hy
    have : k5 < 5 := by omega
    rcases (by omega : k5 = 0 ∨ k5 = 1 ∨ k5 = 2 ∨ k5 = 3 ∨ k5 = 4) with rfl | rfl | rfl | rfl | rfl
    · have hl : y.cps.toList = preL (chF d) ++ 40 :: (bodyL m O F ++ [46]) := by
        rw [hy]; show (headF kd d ++ Str.ofString ".").cps.toList = _
        rw [Str.cps_append, Array.toList_append, hH, lit6]; simp
      exact ⟨proto_lt L hl hbl (by simp), proto_close hl L.ch.1 (by simp [hno])⟩
    · have hl : y.cps.toList = preL (chF d) ++ 40 :: ((bodyL m O F ++ [m]) ++ 41 :: R) := by
        rw [hy]; show (headF kd d ++ markF kd ++ endF d).cps.toList = _
        rw [Str.cps_append, Str.cps_append, Array.toList_append, Array.toList_append, hH, L.hM, L.hE.1]; simp
      refine ⟨proto_lt L hl (by intro a ha; rcases List.mem_append.mp ha with h | h; exact hbl a h; rw [List.mem_singleton.mp h]; omega) hRl, ?_⟩
      refine proto_parts (qs := [[], [], O, F, [], []]) hl L.ch.1 (by simp only [List.mem_append, List.mem_singleton, not_or]; exact ⟨hno, by omega⟩) (q0 := m) (Q' := m :: (O ++ m :: (F ++ [m])) ++ [m]) rfl (by simp) ?_ (by simp [bodyL, joinL]) (by simp)
      intro q hq
      simp only [List.mem_cons, List.not_mem_nil, or_false] at hq
      rcases hq with rfl | rfl | rfl | rfl | rfl | rfl
      · simp
      · simp
      · exact no_of L.hO.2 (by omega)
      · exact no_of L.hF.2 (by omega)
      · simp
      · simp
    · have hl : y.cps.toList = preL (chF d) ++ 40 :: ((bodyL m O F ++ [63]) ++ 41 :: R) := by
        rw [hy]; show (headF kd d ++ Str.ofString "?" ++ endF d).cps.toList = _
        rw [Str.cps_append, Str.cps_append, Array.toList_append, Array.toList_append, hH, lit7, L.hE.1]; simp
      refine ⟨proto_lt L hl (by intro a ha; rcases List.mem_append.mp ha with h | h; exact hbl a h; rw [List.mem_singleton.mp h]; omega) hRl, ?_⟩
      exact proto_mark hl L.ch.1 (by simp only [List.mem_append, List.mem_singleton, not_or]; exact ⟨hno, by omega⟩) (q0 := m) (Q' := m :: (O ++ m :: (F ++ [m])) ++ [63]) rfl (by omega)
    · have hsl : (Txt.slice (headF kd d) none (some (-((fieldF d).length : Int) - 1))).cps.toList = preL (chF d) ++ 40 :: (m :: m :: (O ++ [m])) := by
        have h1 : (headF kd d).cps.toList = (preL (chF d) ++ 40 :: (m :: m :: (O ++ [m]))) ++ (F ++ [m]) := by rw [hH]; simp [bodyL]
        have h2 : (fieldF d).length = F.length := by show (fieldF d).cps.size = _; rw [← Array.length_toList, L.hF.1]
        have := slice_neg h1 (by simp)
        rw [show -(((F ++ [m]).length : Nat) : Int) = -((fieldF d).length : Int) - 1 by rw [h2]; simp; omega] at this
        exact this
      have hl : y.cps.toList = preL (chF d) ++ 40 :: (((m :: m :: O) ++ [m]) ++ 41 :: R) := by
        rw [hy]; show (Txt.slice (headF kd d) none (some (-((fieldF d).length : Int) - 1)) ++ endF d).cps.toList = _
        rw [Str.cps_append, Array.toList_append, hsl, L.hE.1]; simp
      refine ⟨proto_lt L hl (by
        intro a ha
        simp only [List.mem_append, List.mem_cons, List.not_mem_nil, or_false] at ha
        rcases ha with (h | h | h) | h
        · omega
        · omega
        · exact lt_plain L.hO.2 a h
        · omega) hRl, ?_⟩
      refine proto_parts (qs := [[], [], O, []]) hl L.ch.1 ?_ (q0 := m) (Q' := m :: (O ++ [m])) rfl (by simp) ?_ (by simp [joinL]) (by simp)
      · have := no_of L.hO.2 (c := 41) (by omega)
        simp only [List.mem_append, List.mem_cons, List.not_mem_nil, or_false, not_or]
        exact ⟨⟨by omega, by omega, this⟩, by omega⟩
      · intro q hq
        simp only [List.mem_cons, List.not_mem_nil, or_false] at hq
        rcases hq with rfl | rfl | rfl | rfl
        · simp
        · simp
        · exact no_of L.hO.2 (by omega)
        · simp
    · have hl : y.cps.toList = l229 ++ ([32, 50] ++ F ++ [50, 41]) := by
        rw [hy]; show (Str.ofString "229 2" ++ fieldF d ++ Str.ofString "2)").cps.toList = _
        rw [Str.cps_append, Str.cps_append, Array.toList_append, Array.toList_append, lit4, lit5, L.hF.1]; simp [l229]
      have h40 : 40 ∉ F := fun q => (L.hF.2 _ q).2.1 rfl
      refine ⟨fun c hc => ?_, proto_open ⟨_, hl⟩ (by rw [hl]; simp [l229, h40])⟩
      rw [hl] at hc
      simp only [l229, List.mem_append, List.mem_cons, List.not_mem_nil, or_false] at hc
      rcases hc with h | (h | h) | h
      · omega
      · omega
      · exact lt_plain L.hF.2 c h
      · omega
  obtain ⟨k1, k2⟩ := key _ rfl
  exact good_three (b := Str.ofString "no port") (by unfold rowOf; rw [if_neg (by omega), if_pos h5]) (by omega) hlen k1 (.inr ⟨rfl, k2⟩)
end
theorem good_rec {z : Int} (hz : 0 ≤ z ∧ z < 6144) : Good (recF z) := by
  have hk : 0 ≤ z.fmod 8 ∧ z.fmod 8 < 8 := ⟨Int.fmod_nonneg_of_pos _ (by decide), Int.fmod_lt_of_pos _ (by decide)⟩
  have hd : 0 ≤ z.fdiv 8 ∧ z.fdiv 8 < 768 := by rw [Int.fdiv_eq_ediv_of_nonneg _ (by decide)]; omega
  obtain ⟨m, O, F, R, x, L⟩ := laid_ok hk hd
  unfold recF
  rcases Int.lt_trichotomy (z.fmod 8) 5 with h | h | h
  · exact good_whole L h
  · exact good_code L h
  · exact good_proto L h
noncomputable def bl (l : List Int) : List UInt8 := l.map fun n => n.toNat.toUInt8
theorem bl_length (l : List Int) : (bl l).length = l.length := by simp [bl]
theorem bl_append (a b : List Int) : bl (a ++ b) = bl a ++ bl b := by simp [bl]
theorem bl_arr (l : List Int) : (bl l).toArray = byteArr l := rfl
theorem u8 {n : Nat} (h : n < 256) : (n.toUInt8).toNat = n := UInt8.toNat_ofNat_of_lt' h
theorem u8i {x : Int} (h : 0 ≤ x ∧ x < 256) : ((x.toNat.toUInt8).toNat : Int) = x := by rw [u8 (by omega)]; omega
theorem fmt_s (n r : Int) : fmt3 n (Str.ofString "string1") r = fmt2s n r := by
  have h : Str.ofString " bytes in a " ++ Str.ofString "string1" ++ Str.ofString ", but only " = Str.ofString " bytes in a string1, but only " := by decide +kernel
  unfold fmt3 fmt2s
  rw [← h]
  simp only [Str.append_assoc]
theorem fmt_b (n r : Int) : fmt3 n (Str.ofString "bytes1") r = fmt2b n r := by
  have h : Str.ofString " bytes in a " ++ Str.ofString "bytes1" ++ Str.ofString ", but only " = Str.ofString " bytes in a bytes1, but only " := by decide +kernel
  unfold fmt3 fmt2b
  rw [← h]
  simp only [Str.append_assoc]
theorem words_none : ∀ (ps : List Part) (t : Int), t ≤ 0 → wordsF ps t = noData
  | [], _, _ => rfl
  | p :: ps, t, h => by
    rw [wordsF, if_neg (by omega)]
    exact words_none ps _ (by omega)
/-- a part that a reader takes -/
structure Takes {α : Type} (rd : List UInt8 → Except (Str × Nat) (α × Nat)) (val : Part → α) (p : Part) : Prop where
  full : ∀ rest, rd (bl p.xs ++ rest) = .ok (val p, p.xs.length)
  cut : ∀ t, t < p.xs.length → rd ((bl p.xs).take t) = .error (if 0 < t then fmt3 (p.xs.headD 0) p.kind ((t : Int) - 1) else noData, t)
noncomputable abbrev flat (ps : List Part) : List Int := ps.flatMap (·.xs)
section
variable {α : Type} {rd : List UInt8 → Except (Str × Nat) (α × Nat)} {val : Part → α}
theorem many_full : ∀ ps : List Part, (∀ p ∈ ps, Takes rd val p) → ∀ rest, many rd ps.length (bl (flat ps) ++ rest) = .ok (ps.map val, (flat ps).length)
  | [], _, _ => rfl
  | p :: ps, h, rest => by
    have e : bl (flat (p :: ps)) ++ rest = bl p.xs ++ (bl (flat ps) ++ rest) := by simp [flat, bl_append]
    rw [e, List.length_cons, many, (h p List.mem_cons_self).full]
    dsimp only
    rw [show p.xs.length = (bl p.xs).length from (bl_length _).symm, List.drop_left, many_full ps (fun q hq => h q (List.mem_cons_of_mem _ hq)) rest]
    simp [flat, bl_length]
theorem many_cut : ∀ ps : List Part, (∀ p ∈ ps, Takes rd val p) → ∀ t, t < (flat ps).length → many rd ps.length ((bl (flat ps)).take t) = .error (wordsF ps (t : Int), t)
  | [], _, t, ht => by simp [flat] at ht
  | p :: ps, h, t, ht => by
    have e : bl (flat (p :: ps)) = bl p.xs ++ bl (flat ps) := by simp [flat, bl_append]
    have hl := bl_length p.xs
    rw [e, List.length_cons, many, wordsF]
    by_cases q : t < p.xs.length
    · rw [List.take_append_of_le_length (by omega), (h p List.mem_cons_self).cut t q]
      dsimp only
      by_cases z : 0 < t
      · rw [if_pos z, if_pos ⟨by omega, by omega⟩]
      · rw [if_neg z, if_neg (by omega), words_none ps _ (by omega)]
    · rw [List.take_append, List.take_of_length_le (by omega), (h p List.mem_cons_self).full, if_neg (by omega)]
      dsimp only
      rw [← hl, List.drop_left]
      have ht' : t - (bl p.xs).length < (flat ps).length := by
        have : (flat (p :: ps)).length = p.xs.length + (flat ps).length := by simp [flat]
        omega
      rw [many_cut ps (fun q hq => h q (List.mem_cons_of_mem _ hq)) _ ht']
      dsimp only
      rw [show ((t - (bl p.xs).length : Nat) : Int) = (t : Int) - ((bl p.xs).length : Int) by omega, hl]
      congr 2
      omega
end
theorem takes_u {x : Int} (h : 0 ≤ x ∧ x < 256) : Takes rdU (fun p => (p.xs.headD 0).toNat.toUInt8) ⟨Str.ofString "uint1", [x]⟩ where
  full := fun rest => rfl
  cut := fun t ht => by
    have : t = 0 := by simp at ht; exact ht
    subst this
    rfl
theorem takes_b {few : Int} {items : List Int} (hf : few = (items.length : Int)) (hl : items.length < 256) : Takes rdB (fun p => bl (p.xs.drop 1)) ⟨Str.ofString "bytes1", few :: items⟩ where
  full := fun rest => by
    have hc : (few.toNat.toUInt8).toNat = items.length := by rw [u8 (by omega)]; omega
    show rdB (few.toNat.toUInt8 :: (bl items ++ rest)) = _
    rw [rdB_ok (by rw [hc, List.length_append, bl_length]; omega), hc, ← bl_length items, List.take_left, bl_length]
    simp [Nat.add_comm]
  cut := fun t ht => by
    have hc : (few.toNat.toUInt8).toNat = items.length := by rw [u8 (by omega)]; omega
    cases t with
    | zero => rfl
    | succ t =>
      have ht' : t < items.length := by simpa using ht
      show rdB (few.toNat.toUInt8 :: (bl items).take t) = _
      rw [rdB_err (by rw [hc, List.length_take, bl_length]; omega), hc, List.length_take, bl_length, Nat.min_eq_left (by omega), if_pos (by omega), ← fmt_b]
      simp only [List.headD_cons]
      rw [hf, show ((t + 1 : Nat) : Int) - 1 = (t : Int) by omega, Nat.add_comm]
theorem parts_u {n d : Int} (hn : 0 ≤ n) : ∀ p ∈ partsF n d, Takes rdU (fun p => (p.xs.headD 0).toNat.toUInt8) p ∧ ∃ x, p.xs = [x] ∧ 0 ≤ x ∧ x < 256 := by
  intro p hp
  unfold partsF at hp
  rw [if_pos hn] at hp
  obtain ⟨k, _, rfl⟩ := List.mem_map.mp hp
  have h : 0 ≤ (d + 7 * (k : Int)).fmod 256 ∧ (d + 7 * (k : Int)).fmod 256 < 256 := ⟨Int.fmod_nonneg_of_pos _ (by decide), Int.fmod_lt_of_pos _ (by decide)⟩
  exact ⟨takes_u h, _, rfl, h⟩
theorem parts_b {n d : Int} (hn : ¬ 0 ≤ n) : ∀ p ∈ partsF n d, Takes rdB (fun p => bl (p.xs.drop 1)) p ∧ p.xs.length ≤ 4 ∧ 0 < p.xs.length ∧ ∀ x ∈ p.xs, 0 ≤ x ∧ x < 256 := by
  intro p hp
  unfold partsF at hp
  rw [if_neg hn] at hp
  obtain ⟨k, _, rfl⟩ := List.mem_map.mp hp
  have h : 0 ≤ (d + (k : Int)).fmod 4 ∧ (d + (k : Int)).fmod 4 < 4 := ⟨Int.fmod_nonneg_of_pos _ (by decide), Int.fmod_lt_of_pos _ (by decide)⟩
  refine ⟨takes_b (by simp; omega) (by simp; omega), by unfold bPart; simp; omega, by unfold bPart; simp, ?_⟩
  intro x hx
  unfold bPart at hx
  rcases List.mem_cons.mp hx with rfl | hx
  · omega
  · obtain ⟨j, _, rfl⟩ := List.mem_map.mp hx
    exact ⟨Int.fmod_nonneg_of_pos _ (by decide), Int.fmod_lt_of_pos _ (by decide)⟩
theorem parts_len (n d : Int) : (partsF n d).length = (if 0 ≤ n then n else -n).toNat := by unfold partsF; split <;> simp
section
variable {r : Rec} {a bf : Str}
/-- the reply's own octets -/
noncomputable def repL (a : Str) : List UInt8 := a.cps.toList.map fun c => c.toUInt8
theorem rep_bl (a : Str) : bl (strPart a).xs = a.length.toUInt8 :: repL a := by simp [bl, strPart, repL]
theorem rep_length (a : Str) : (repL a).length = a.length := by show (a.cps.toList.map _).length = a.cps.size; simp
theorem rep_text (h : ∀ c ∈ a.cps.toList, c < 256) : textOf (repL a) = a := by
  apply str_ext
  unfold textOf repL
  rw [List.map_map]
  show (a.cps.toList.map _).toArray.toList = _
  rw [List.toList_toArray]
  conv => rhs; rw [← List.map_id a.cps.toList]
  exact List.map_congr_left fun c hc => u8 (h c hc)
theorem one_head' (hl : a.length ≤ 255) (hc : ∀ c ∈ a.cps.toList, c < 256) (X : List UInt8) : oneF (bl (strPart a).xs ++ X) bf = (afterF a bf X).shift (1 + a.length) := by
  rw [rep_bl, List.cons_append]
  have e : (a.length.toUInt8).toNat = a.length := u8 (by omega)
  show (if (repL a ++ X).length < (a.length.toUInt8).toNat then _ else _) = _
  rw [if_neg (by rw [e, List.length_append, rep_length]; omega), e]
  have h1 : (repL a ++ X).take a.length = repL a := by rw [← rep_length a, List.take_left]
  have h2 : (repL a ++ X).drop a.length = X := by rw [← rep_length a, List.drop_left]
  rw [h1, h2, rep_text hc]
theorem one_short (hl : a.length ≤ 255) {t : Nat} (ht : t < (strPart a).xs.length) (X : List UInt8) (ps : List Part) : oneF ((bl (strPart a).xs ++ X).take t) bf = .stop (wordsF (strPart a :: ps) (t : Int)) t := by
  have hx : (strPart a).xs.length = a.length + 1 := by show ((a.length : Int) :: a.cps.toList.map _).length = _; rw [List.length_cons, List.length_map]; show a.cps.toList.length + 1 = a.cps.size + 1; simp
  rw [wordsF]
  cases t with
  | zero =>
    rw [if_neg (by omega), words_none _ _ (by omega)]
    rfl
  | succ t =>
    have e : (a.length.toUInt8).toNat = a.length := u8 (by omega)
    rw [if_pos ⟨by omega, by omega⟩, rep_bl, List.cons_append, List.take_succ_cons]
    show (if ((repL a ++ X).take t).length < (a.length.toUInt8).toNat then One.stop (fmt2s ((a.length.toUInt8).toNat : Nat) ((repL a ++ X).take t).length) (1 + ((repL a ++ X).take t).length) else _) = _
    have h1 : ((repL a ++ X).take t).length = t := by rw [List.length_take, List.length_append, rep_length]; omega
    rw [h1, e, if_pos (by omega)]
    show One.stop (fmt2s (a.length : Int) (t : Int)) (1 + t) = One.stop (fmt3 (a.length : Int) (Str.ofString "string1") (((t + 1 : Nat) : Int) - 1)) (t + 1)
    rw [fmt_s, show ((t + 1 : Nat) : Int) - 1 = (t : Int) by omega, Nat.add_comm]
theorem fine_at (hl : a.length ≤ 255) (hc : ∀ c ∈ a.cps.toList, c < 256) (hf : Fine a) (X : List UInt8) (t : Nat) : FineAt ((bl (strPart a).xs ++ X).take t) := by
  intro c r' e hle
  rw [rep_bl] at e
  cases t with
  | zero => cases e
  | succ t =>
    rw [List.cons_append, List.take_succ_cons] at e
    cases e
    have e : (a.length.toUInt8).toNat = a.length := u8 (by omega)
    rw [e] at hle ⊢
    have h1 : ((repL a ++ X).take t).take a.length = repL a := by
      rw [List.length_take] at hle
      rw [List.take_take, Nat.min_eq_left (by omega), ← rep_length a, List.take_left]
    rw [h1, rep_text hc]
    exact hf
end
theorem ints_of {r : Rec} {a : Str} {ps : List Part} (h : r.parts = strPart a :: ps) : r.ints = (strPart a).xs ++ flat ps := by unfold Rec.ints; rw [h]; simp [flat]
theorem one_full {r : Rec} (g : Good r) (X : List UInt8) (bf : Str) : oneF (bl r.ints ++ X) bf = .row (rowD bf r) r.row.reply r.ints.length := by
  obtain ⟨row, parts⟩ := r
  have hb := g.body
  have hl := g.len
  have hc := g.cps
  have hx : ∀ a : Str, (strPart a).xs.length = a.length + 1 := fun a => by show ((a.length : Int) :: a.cps.toList.map _).length = _; rw [List.length_cons, List.length_map]; show a.cps.toList.length + 1 = a.cps.size + 1; simp
  cases row with
  | three a b c =>
    obtain ⟨rfl, hp, hb⟩ := hb
    have hi := ints_of (ps := []) hp
    simp only [flat, List.flatMap_nil, List.append_nil] at hi
    rw [hi, one_head' (a := a) hl hc]
    have e : 1 + a.length + 0 = (strPart a).xs.length := by rw [hx]; omega
    rcases hb with ⟨rfl, h⟩ | ⟨rfl, h⟩ <;> (unfold afterF; rw [h]; dsimp only [One.shift]; rw [e]; rfl)
  | two a b =>
    obtain ⟨rfl, hp, h⟩ := hb
    have hi := ints_of (ps := []) hp
    simp only [flat, List.flatMap_nil, List.append_nil] at hi
    rw [hi, one_head' (a := a) hl hc]
    have e : 1 + a.length + 0 = (strPart a).xs.length := by rw [hx]; omega
    unfold afterF
    rw [h]
    dsimp only [One.shift]
    rw [e]
    rfl
  | num a n =>
    obtain ⟨h, h1, h2, d, hp⟩ := hb
    have hi := ints_of hp
    rw [hi, bl_append, List.append_assoc, one_head' (a := a) hl hc]
    have hp' : parts = strPart a :: partsF n d := hp
    have hdrop : (⟨.num a n, parts⟩ : Rec).parts.drop 1 = partsF n d := by show parts.drop 1 = _; rw [hp']; rfl
    have hpl := parts_len n d
    unfold afterF rowD
    rw [h, hdrop]
    dsimp only
    unfold portF
    by_cases q : n < 0
    · rw [if_pos q, if_pos q]
      rw [if_neg (by omega)] at hpl
      rw [← hpl, many_full (partsF n d) (fun p hm => (parts_b (by omega) p hm).1) X]
      dsimp only [One.shift]
      rw [List.map_map, List.length_append, hx]
      congr 1
      omega
    · rw [if_neg q, if_neg q]
      rw [if_pos (by omega)] at hpl
      rw [← hpl, many_full (partsF n d) (fun p hm => (parts_u (by omega) p hm).1) X]
      dsimp only [One.shift]
      rw [List.map_map, List.length_append, hx]
      have : (partsF n d).map ((fun c : UInt8 => Dat.int (c.toNat : Nat)) ∘ fun p => (p.xs.headD 0).toNat.toUInt8) = (partsF n d).map fun p => Dat.int (p.xs.headD 0) := by
        refine List.map_congr_left fun p hm => ?_
        obtain ⟨_, x, hx, hr⟩ := parts_u (by omega) p hm
        show Dat.int (((p.xs.headD 0).toNat.toUInt8).toNat : Nat) = Dat.int (p.xs.headD 0)
        rw [hx]
        exact congrArg Dat.int (u8i hr)
      rw [this]
      congr 1
      omega
theorem one_cut {r : Rec} (g : Good r) {t : Nat} (ht : t < r.ints.length) (bf : Str) : oneF ((bl r.ints).take t) bf = .stop (wordsF r.parts (t : Int)) t := by
  obtain ⟨row, parts⟩ := r
  have hb := g.body
  have hl := g.len
  have hc := g.cps
  have hx : ∀ a : Str, (strPart a).xs.length = a.length + 1 := fun a => by show ((a.length : Int) :: a.cps.toList.map _).length = _; rw [List.length_cons, List.length_map]; show a.cps.toList.length + 1 = a.cps.size + 1; simp
  have short : ∀ (a : Str) (ps : List Part), a.length ≤ 255 → parts = strPart a :: ps → t < (strPart a).xs.length → oneF ((bl (⟨row, parts⟩ : Rec).ints).take t) bf = .stop (wordsF (⟨row, parts⟩ : Rec).parts (t : Int)) t := fun a ps h1 h2 h3 => by
    rw [ints_of (r := ⟨row, parts⟩) h2, bl_append]
    show _ = One.stop (wordsF parts _) _
    rw [h2]
    exact one_short h1 h3 _ _
  cases row with
  | three a b c =>
    obtain ⟨rfl, hp, hb⟩ := hb
    have hi := ints_of (ps := []) hp
    simp only [flat, List.flatMap_nil, List.append_nil] at hi
    exact short a [] hl hp (by rw [← hi]; exact ht)
  | two a b =>
    obtain ⟨rfl, hp, h⟩ := hb
    have hi := ints_of (ps := []) hp
    simp only [flat, List.flatMap_nil, List.append_nil] at hi
    exact short a [] hl hp (by rw [← hi]; exact ht)
  | num a n =>
    obtain ⟨h, h1, h2, d, hp⟩ := hb
    by_cases q : t < (strPart a).xs.length
    · exact short a _ hl hp q
    have hi := ints_of hp
    have hp' : parts = strPart a :: partsF n d := hp
    have hbl := bl_length (strPart a).xs
    rw [hi, List.length_append] at ht
    rw [hi, bl_append, List.take_append, List.take_of_length_le (by omega), one_head' (a := a) hl hc, hbl]
    show _ = One.stop (wordsF parts _) _
    rw [hp', wordsF, if_neg (by omega)]
    have ht' : t - (strPart a).xs.length < (flat (partsF n d)).length := by omega
    have hpl := parts_len n d
    have hw : ((t - (strPart a).xs.length : Nat) : Int) = (t : Int) - ((strPart a).xs.length : Int) := by omega
    unfold afterF
    rw [h]
    dsimp only
    unfold portF
    by_cases z : n < 0
    · rw [if_pos z]
      rw [if_neg (by omega)] at hpl
      rw [← hpl, many_cut (partsF n d) (fun p hm => (parts_b (by omega) p hm).1) _ ht']
      dsimp only [One.shift]
      rw [hw]
      have := hx a
      congr 1
      omega
    · rw [if_neg z]
      rw [if_pos (by omega)] at hpl
      rw [← hpl, many_cut (partsF n d) (fun p hm => (parts_u (by omega) p hm).1) _ ht']
      dsimp only [One.shift]
      rw [hw]
      have := hx a
      congr 1
      omega
theorem fine_cut {r : Rec} (g : Good r) (X : List UInt8) (t : Nat) : FineAt ((bl r.ints ++ X).take t) := by
  obtain ⟨row, parts⟩ := r
  have key : ∀ (a : Str) (ps : List Part), a.length ≤ 255 → (∀ c ∈ a.cps.toList, c < 256) → Fine a → parts = strPart a :: ps → FineAt ((bl (⟨row, parts⟩ : Rec).ints ++ X).take t) := fun a ps h1 h2 h3 h4 => by
    rw [ints_of (r := ⟨row, parts⟩) h4, bl_append, List.append_assoc]
    exact fine_at h1 h2 h3 _ _
  have hb := g.body
  cases row with
  | three a b c => exact key a [] g.len g.cps g.fine hb.2.1
  | two a b => exact key a [] g.len g.cps g.fine hb.2.1
  | num a n => obtain ⟨_, _, _, d, hp⟩ := hb; exact key a _ g.len g.cps g.fine hp
theorem size_ints (r : Rec) : r.size = (r.ints.length : Int) := by
  have : ∀ ps : List Part, (ps.map fun p => (p.xs.length : Int)).sum = ((ps.flatMap (·.xs)).length : Int) := by
    intro ps
    induction ps with
    | nil => rfl
    | cons p ps ih => rw [List.map_cons, List.sum_cons, ih]; simp
  exact this r.parts
/-- the stream told: what is due -/
theorem told_due : ∀ (rs : List Rec), (∀ r ∈ rs, Good r) → ∀ (t k : Nat) (bf : Str), t ≤ (rs.flatMap Rec.ints).length → Told ((bl (rs.flatMap Rec.ints)).take t) k bf (dueLoop ((k + t : Nat) : Int) rs (t : Int) bf)
  | [], _, t, k, bf, ht => by
    have : t = 0 := by simpa using ht
    subst this
    exact .stop (m := msg1) (u := 0) (fun c r' e => by cases e) rfl
  | r :: rs, h, t, k, bf, ht => by
    have g := h r List.mem_cons_self
    have e : bl ((r :: rs).flatMap Rec.ints) = bl r.ints ++ bl (rs.flatMap Rec.ints) := by rw [List.flatMap_cons, bl_append]
    have hbl := bl_length r.ints
    have hf := fine_cut g (bl (rs.flatMap Rec.ints)) t
    rw [e, dueLoop, size_ints]
    by_cases q : t < r.ints.length
    · rw [if_pos (by omega)]
      refine .stop hf ?_
      rw [List.take_append_of_le_length (by omega)]
      exact one_cut g q bf
    · rw [if_neg (by omega)]
      have hs : (bl r.ints ++ bl (rs.flatMap Rec.ints)).take t = bl r.ints ++ (bl (rs.flatMap Rec.ints)).take (t - r.ints.length) := by rw [List.take_append, List.take_of_length_le (by omega), hbl]
      rw [hs] at hf ⊢
      have ht' : t - r.ints.length ≤ (rs.flatMap Rec.ints).length := by rw [List.flatMap_cons, List.length_append] at ht; omega
      refine .row hf (one_full g _ bf) ?_
      rw [← hbl, List.drop_left, hbl]
      have := told_due rs (fun r hr => h r (List.mem_cons_of_mem _ hr)) (t - r.ints.length) (k + r.ints.length) r.row.reply ht'
      rw [show k + r.ints.length + (t - r.ints.length) = k + t by omega, show ((t - r.ints.length : Nat) : Int) = (t : Int) - (r.ints.length : Int) by omega] at this
      exact this
theorem nums_bound (ns : List Int) : ∀ z ∈ numsF ns, 0 ≤ z ∧ z < 6144 := by
  intro z hz
  rcases List.mem_append.mp hz with hz | hz
  · simp only [List.mem_cons, List.not_mem_nil, or_false] at hz
    omega
  · obtain ⟨x, _, rfl⟩ := List.mem_map.mp hz
    exact ⟨Int.fmod_nonneg_of_pos _ (by decide), Int.fmod_lt_of_pos _ (by decide)⟩
theorem recs_good (ns : List Int) : ∀ r ∈ recsF ns, Good r := by
  intro r hr
  obtain ⟨z, hz, rfl⟩ := List.mem_map.mp hr
  exact good_rec (nums_bound ns z hz)
theorem good_parts {r : Rec} (g : Good r) : r.parts.length ≤ 20 ∧ ∀ p ∈ r.parts, p.ok ∧ 0 < p.xs.length := by
  obtain ⟨row, parts⟩ := r
  have hb := g.body
  have sp : ∀ a : Str, a.length ≤ 255 → (∀ c ∈ a.cps.toList, c < 256) → (strPart a).ok ∧ 0 < (strPart a).xs.length := fun a h1 h2 => by
    refine ⟨⟨?_, (show (Str.ofString "string1").length < 1000 by decide +kernel), ?_⟩, by simp [strPart]⟩
    · show ((a.length : Int) :: a.cps.toList.map _).length ≤ 256
      rw [List.length_cons, List.length_map]
      have : a.cps.toList.length = a.length := by show _ = a.cps.size; simp
      omega
    · intro x hx
      rcases List.mem_cons.mp hx with rfl | hx
      · omega
      · obtain ⟨c, hc, rfl⟩ := List.mem_map.mp hx
        have := h2 c hc
        omega
  have one : ∀ a : Str, a.length ≤ 255 → (∀ c ∈ a.cps.toList, c < 256) → parts = [strPart a] → parts.length ≤ 20 ∧ ∀ p ∈ parts, p.ok ∧ 0 < p.xs.length := fun a h1 h2 h => by
    rw [h]
    exact ⟨by simp, fun p hp => by rw [List.mem_singleton.mp hp]; exact sp a h1 h2⟩
  cases row with
  | three a b c => exact one a g.len g.cps hb.2.1
  | two a b => exact one a g.len g.cps hb.2.1
  | num a n =>
    obtain ⟨_, h1, h2, d, hp⟩ := hb
    have hp' : parts = strPart a :: partsF n d := hp
    show parts.length ≤ 20 ∧ ∀ p ∈ parts, _
    rw [hp', List.length_cons, parts_len]
    refine ⟨by split <;> omega, fun p hm => ?_⟩
    rcases List.mem_cons.mp hm with rfl | hm
    · exact sp a g.len g.cps
    · by_cases q : 0 ≤ n
      · obtain ⟨_, x, hx, hr⟩ := parts_u q p hm
        have hk : p.kind.length < 1000 := by
          unfold partsF at hm; rw [if_pos q] at hm
          obtain ⟨k, _, rfl⟩ := List.mem_map.mp hm
          show (Str.ofString "uint1").length < 1000; decide +kernel
        exact ⟨⟨by rw [hx]; simp, hk, by rw [hx]; intro y hy; rw [List.mem_singleton.mp hy]; exact hr⟩, by rw [hx]; simp⟩
      · obtain ⟨_, h4, h0, hr⟩ := parts_b q p hm
        have hk : p.kind.length < 1000 := by
          unfold partsF at hm; rw [if_neg q] at hm
          obtain ⟨k, _, rfl⟩ := List.mem_map.mp hm
          show (Str.ofString "bytes1").length < 1000; decide +kernel
        exact ⟨⟨by omega, hk, hr⟩, h0⟩
theorem flat_len {n : Nat} : ∀ ps : List Part, (∀ p ∈ ps, p.xs.length ≤ n) → (ps.flatMap (·.xs)).length ≤ ps.length * n
  | [], _ => by simp
  | p :: ps, h => by
    have h1 := h p List.mem_cons_self
    have h2 := flat_len ps fun q hq => h q (List.mem_cons_of_mem _ hq)
    rw [List.flatMap_cons, List.length_append, List.length_cons, Nat.succ_mul]
    omega
theorem ints_len {n : Nat} : ∀ rs : List Rec, (∀ r ∈ rs, r.ints.length ≤ n) → (rs.flatMap Rec.ints).length ≤ rs.length * n
  | [], _ => by simp
  | r :: rs, h => by
    have h1 := h r List.mem_cons_self
    have h2 := ints_len rs fun q hq => h q (List.mem_cons_of_mem _ hq)
    rw [List.flatMap_cons, List.length_append, List.length_cons, Nat.succ_mul]
    omega
theorem due_len (cut : Int) : ∀ (rs : List Rec) (t : Int) (b : Str), (dueLoop cut rs t b).length ≤ rs.length + 1
  | [], _, _ => by simp [dueLoop]
  | r :: rs, t, b => by
    rw [dueLoop]
    split
    · simp
    · have := due_len cut rs (t - r.size) r.row.reply
      simp only [List.length_cons]
      omega
theorem dp_row (b : Str) (r : Rec) : Dp 4 (rowD b r) := by
  unfold rowD
  split
  · intro x hx
    simp only [List.mem_cons, List.not_mem_nil, or_false] at hx
    rcases hx with rfl | rfl | rfl <;> trivial
  · intro x hx
    simp only [List.mem_cons, List.not_mem_nil, or_false] at hx
    rcases hx with rfl | rfl <;> trivial
  · intro x hx
    simp only [List.mem_cons, List.not_mem_nil, or_false] at hx
    rcases hx with rfl | rfl | rfl
    · trivial
    · intro y hy
      simp only [List.mem_cons, List.not_mem_nil, or_false] at hy
      rcases hy with rfl | rfl <;> trivial
    · intro y hy
      split at hy
      · obtain ⟨p, _, rfl⟩ := List.mem_map.mp hy
        intro z hz
        simp only [List.mem_cons, List.not_mem_nil, or_false] at hz
        rcases hz with rfl | rfl <;> trivial
      · obtain ⟨p, _, rfl⟩ := List.mem_map.mp hy
        trivial
theorem dp_end (m : Str) (n : Int) : Dp 4 (.list [.str m, .int n]) := by
  intro x hx
  simp only [List.mem_cons, List.not_mem_nil, or_false] at hx
  rcases hx with rfl | rfl <;> trivial
theorem dp_due (cut : Int) : ∀ (rs : List Rec) (t : Int) (b : Str), ∀ x ∈ dueLoop cut rs t b, Dp 4 x
  | [], _, _, x, hx => by rw [dueLoop] at hx; rw [List.mem_singleton.mp hx]; exact dp_end _ _
  | r :: rs, t, b, x, hx => by
    rw [dueLoop] at hx
    split at hx
    · rw [List.mem_singleton.mp hx]; exact dp_end _ _
    · rcases List.mem_cons.mp hx with rfl | hx
      · exact dp_row _ _
      · exact dp_due cut rs _ _ x hx
theorem plain_all (ns : List Int) : Plain ns := by
  have hg := recs_good ns
  have hlen : (recsF ns).length ≤ 15 := by
    unfold recsF numsF
    simp only [List.length_map, List.length_append, List.length_take, List.length_cons, List.length_nil]
    omega
  have hil : ((recsF ns).flatMap Rec.ints).length ≤ (recsF ns).length * 5120 := ints_len _ fun r hr => by
    have h1 := good_parts (hg r hr)
    have h2 := flat_len (n := 256) r.parts fun p hp => (h1.2 p hp).1.1
    have h3 := Nat.mul_le_mul_right 256 h1.1
    exact Nat.le_trans h2 h3
  have hsize : (octF ns).size = ((recsF ns).flatMap Rec.ints).length := byteArr_size _
  have hil' := Nat.mul_le_mul_right 5120 hlen
  have hcut : 0 ≤ cutF ns ∧ cutF ns ≤ (octF ns).size := by
    have h1 := Int.fmod_nonneg_of_pos (numsF ns).sum (b := ((octF ns).size : Int) + 1) (by omega)
    have h2 := Int.fmod_lt_of_pos (numsF ns).sum (b := ((octF ns).size : Int) + 1) (by omega)
    exact ⟨h1, by unfold cutF; omega⟩
  have hoct : (octF ns).toList = bl ((recsF ns).flatMap Rec.ints) := by unfold octF byteArr bl; simp
  have dl : ∀ cut, (dueF (recsF ns) cut).length ≤ 1000 := fun cut => by have := due_len cut (recsF ns) cut (Str.ofString ""); unfold dueF; omega
  refine ⟨fun r hr => ⟨(good_parts (hg r hr)).1, fun p hp => ((good_parts (hg r hr)).2 p hp).1⟩, fun r hr p hp => ((good_parts (hg r hr)).2 p hp).2, by omega, fun x hx => dp_due _ _ _ _ x hx, fun x hx => dp_due _ _ _ _ x hx, dl _, dl _, ?_, ?_⟩
  · have := told_due (recsF ns) hg (octF ns).size 0 (Str.ofString "") (by omega)
    rw [List.take_of_length_le (by rw [bl_length]; omega), Nat.zero_add] at this
    rw [hoct]
    exact this
  · have := told_due (recsF ns) hg (cutF ns).toNat 0 (Str.ofString "") (by omega)
    rw [Nat.zero_add, Int.toNat_of_nonneg hcut.1] at this
    rw [hoct]
    exact this
/-- the claim's own caller, at its start -/
noncomputable abbrev Γ0 : Ctx := ⟨.builtin "claim.caller" {}, none, none, [], none⟩
theorem called0 (c : Code) (h : Option Value) (p : Pos) : Called (Ctx.enter Γ0 c h p) := rfl
theorem call0 {M : Model} {f : Value} {vs : List Value} {Q : Value → Shared → Prop} {E : Value → Shared → Prop} {s : Shared} {p : Pos}
    (h : codeC M callerA (.call f ⟨vs, []⟩) (fun r s' => match r with | .ok (.ret v) => Q v s' | .ok _ => False | .error e => E e s') s) :
    wp M Γ0 (PySem.call f vs) (fun a _ s' => Q a s') (fun e _ s' => E e s') p s := by
  show wp M Γ0 (runValue _) _ _ p s
  rw [Sem.wp_runValue]
  exact h _ p rfl (caller_in.enter _ none p (by intro x; cases x)) (called0 _ _ _)
/-- what the claim's caller leaves, from what the call is shown to do under it -/
theorem callFrom_C {c : ClaimW} {tree : List Value → Sem Fin} {w : World} {s : Shared} {free : Addr → Prop} {gens : Prop} {kept : Heap → Prop} (hz : s.asleep) (hgens : s.gens = #[])
    (spec : ∀ args, c.pre args = true → WData.layableAll args = true → ∀ ord : List DictEntry → List DictEntry, (∀ l, (ord l).Perm l) →
      ∃ vs s₁, layAllW c.records (classAt s.heap) w.params ord args s = some (vs, s₁) ∧
        wp (model c.prog w) Γ0 (tree vs) (fun fin _ s' => ∃ f, fin = .done f ∧ (c.Ends s args vs s₁ (.ok f) s' ∧ s'.os = s.os ∧ AllBare s'.gens ∧ kept s'.heap))
          (fun e _ s' => c.Ends s args vs s₁ (.error e) s' ∧ s'.os = s.os ∧ AllBare s'.gens ∧ kept s'.heap) default s₁) :
    c.CallFrom (fun vs => ⟨tree vs, .builtin "claim.caller" {}, default, []⟩) w free gens kept s := by
  intro args hpre hlay ord hord
  obtain ⟨vs, s₁, hlaid, hwp⟩ := spec args hpre hlay ord hord
  have hal := layAllW_rest _ _ _ hlaid
  have asleep₁ : s₁.asleep := Shared.asleep_of_life hal.2.2.2 hz
  obtain ⟨k, r, sR, sE, hsched, hrun, hfo, hend, hos, hkp⟩ := wp_halts_full (M := model c.prog w) (c := .builtin "claim.caller" {}) (t := tree vs) (p := default) (s := s₁)
    (R := fun r s' => c.Ends s args vs s₁ r s' ∧ s'.os = s.os ∧ kept s'.heap) asleep₁
    (Sem.wp_mono _ _ _ (fun fin _ s' x => by
        obtain ⟨f, rfl, a, b, g, k⟩ := x
        exact ⟨⟨a, b, k⟩, leftWithCleanup_false_of_bare g⟩)
      (fun e _ s' ⟨a, b, g, k⟩ => ⟨⟨a, b, k⟩, leftWithCleanup_false_of_bare g⟩) _ _ hwp)
  obtain ⟨eh, _, _, eo, _⟩ := Shared.forget_eq hfo
  have hend := hend.congr eh
  have hkp : kept sE.heap := eh ▸ hkp
  have hos : sE.os = s.os := eo.trans hos
  have hlife : sE.heap.life = s.heap.life := (runN_life _ _ _ hrun).trans hal.2.2.2
  refine ⟨vs, s₁, hlaid, k, _, sE, hsched, ?_, fun _ i x hx => by rw [hgens] at hx; simp at hx, hkp, by rw [hlife], Shared.rest_eq hos⟩
  rcases hend with ⟨v, rfl, d1, d2, d3, d4, d5⟩ | ⟨e, ob, cls, rfl, d1, d2, d3, d4, d5⟩
  · exact .inl ⟨v, rfl, d1, d2, d3, fun b o y _ => d4 b o y, d5⟩
  · exact .inr ⟨e, ob, cls, rfl, d1, d2, d3, d4, fun b o y _ => d5 b o y⟩
/-- what is to be walked: the call under the claim's own caller -/
noncomputable abbrev WalkC (q : Program) (loose : List Str) (XP : (Str → Option Value) → Heap → Prop) (YP : World → Heap → Prop) (r : RowW) (d : DefRec) (kwd : List (Str × Expr)) : Prop :=
  ∀ (w : World) (s₀ s₁ : Shared) (mg mb : Str → Option Value), Ground q loose r.records XP w s₀ mg mb s₁.heap → YP w s₁.heap → ∀ (a : Addr) (o : Obj) (pm cd doc dV kV : Value), s₁.heap.get? a = some o →
    o.data = .func { docDef d.name d.params d.body d.scope pm cd doc with defaults := dV, kwdefaults := kV } → s₁.heap.CodeRec cd d.name → Dflts mg s₁.heap d.params kwd dV kV → mg d.name = some (.ref a) → s₁.gens = #[] →
    ∀ (args : List WData) (vals : List Value) (as : List Addr), r.claim.pre args = true → WData.layableAll args = true → ReadsAllW r.records (classAt s₀.heap) s₁.heap vals args as → WellAll w.params s₁.heap vals args → (∀ a ∈ as, (a == sysModules) = false) →
      codeC (model r.prog w) callerA (.call (.ref a) ⟨vals, []⟩) (fun res s' => match res with
        | .ok (.ret v) => GoodWG r.claim (classAt s₀.heap) (ExcName.means s₀.heap) args s₁ (.ok (.ret v)) s'
        | .ok _ => False
        | .error e => GoodWG r.claim (classAt s₀.heap) (ExcName.means s₀.heap) args s₁ (.error e) s') s₁
theorem holds_core {r : OpenRow} {q : Program} {loose : List Str} {Xt : Shared → Bool} {XP : (Str → Option Value) → Heap → Prop} {α : Type} {Yf : Shared → α} {Ya : World → α} {YP : World → Heap → Prop} {d : DefRec} {kwd : List (Str × Expr)} {N : Nat}
    (left : LeftO r.prog q loose Xt Yf Ya N) (hY : ∀ w s, Yf s = Ya w → YP w s.heap) (hYk : ∀ w h h', YP w h → (∀ b o, h.get? b = some o → h'.get? b = some o) → YP w h')
    (hX : ∀ s, Xt s = true → XP (s.heap.nsMap mainGlobals) s.heap) (hXk : ∀ mg h h', XP mg h → (∀ b o, h.get? b = some o → h'.get? b = some o) → XP mg h')
    (hdef : defOf q r.name = some (d, kwd)) (hp : r.prog.theDef r.name = some (d.params, d.body, d.scope)) (hk : kwWritten? d.params.kwonlyargs d.params.kw_defaults = some kwd) (hRf : ∀ s, Xt s = true → RecFacts r.records s.heap) (hwr : (!r.writes || r.records.isEmpty) = true)
    (k1 : r.wellSaid = true) (ok : (chainsOk q && opensWell r.prog && (frees r.toRowW && r.within.isEmpty)) = true) (hb : r.prog.bare) (hw : r.toRowW.promised)
    (call : WalkC q loose XP YP r.toRowW d kwd) : r.Holds := by
  obtain ⟨ok, k5⟩ := Bool.and_eq_true_iff.mp ok
  obtain ⟨hch, o1⟩ := Bool.and_eq_true_iff.mp ok
  obtain ⟨k5, k6⟩ := Bool.and_eq_true_iff.mp k5
  obtain ⟨hsame, hu, ha, hap, hm⟩ := frees_parts k5
  refine ⟨k1, hw, ⟨hb, o1, by show r.toRowW.makers.map _ = []; rw [hm]; rfl⟩, hw.witness, fun w => ⟨(left.behind hX hch w).1, fun s' hs' => ?_⟩⟩
  obtain ⟨s₀, hf, hg0, s, hT, hz, hgens, hg, GG, y⟩ := (left.behind (XP := fun mg h => XP mg h ∧ RecFacts r.records h) (fun s hs => ⟨hX s hs, hRf s hs⟩) hch w).2 s' hs'
  have G0 : Ground q loose [] XP w s (s.heap.nsMap mainGlobals) (s.heap.nsMap builtinsNs) s.heap := ⟨GG.T, GG.B, GG.D, GG.TE, GG.TD, GG.W, GG.X.1, GG.cls, GG.has, GG.apart, GG.once, GG.K⟩
  have RF := GG.X.2
  have hT' := hT
  refine ⟨s₀, hf, hg0, s, hT, (fun n hn => by
    obtain rfl : n = r.name := by split at hn <;> simp_all
    exact pinned_of_view hg G0 hdef hp hk), RF.1, RF.2.1, ?_⟩
  have hgens : s.gens = #[] := Array.eq_empty_of_size_eq_zero (beq_iff_eq.mp hgens)
  have G : Ground q loose r.records XP w s _ _ s.heap := RF.ground G0
  refine callFrom_C (c := r.claim) hz hgens fun args hpre hlay ord hord => ?_
  obtain ⟨⟨vs, s₁⟩, hlaid⟩ := Option.isSome_iff_exists.mp (layAllW_isSome (P := w.params) (ord := ord) G.has args r.args s (pre_splitW hpre).1)
  have keeps := layAllW_keeps _ _ _ hlaid
  have hal := layAllW_rest _ _ _ hlaid
  obtain ⟨as, hrd, hin, hold⟩ := reads_layAllW hord _ _ _ hlaid hlay s₁.heap (fun _ _ e => e)
  have L : Laid r.records w s s₁ args vs as := ⟨⟨ord, hord, hlaid⟩, hrd, hin, hold, keeps, hal.1.trans hgens, hal.2.2.1⟩
  have G₁ := G.keeps hXk keeps
  obtain ⟨a, o, pm, cd, doc, dV, kV, h1, h2, h3, h4, h5⟩ := G₁.fn hdef
  have hc := call w s s₁ _ _ G₁ (hYk _ _ _ (hY w s y) keeps) a o pm cd doc dV kV h2 h3 h4 h5 (defOf_name hdef ▸ h1) L.gens args vs as hpre hlay L.reads L.well (L.low G.low)
  have hi := ident_freeW hu ha hap
  have hwi : r.claim.within = [] := List.isEmpty_iff.mp k6
  refine ⟨vs, s₁, hlaid, ?_⟩
  show wp _ Γ0 (nsGet mainNs r.name >>= fun x => _) _ _ _ _
  rw [Sem.wp_bind']
  refine (Sem.wp_nsGet _ Γ0 _ _ _ G₁.T.g r.name _).mpr ?_
  rw [h1]
  show wp _ Γ0 (PySem.call (.ref a) vs >>= fun v => ret v) _ _ _ _
  rw [Sem.wp_bind']
  refine Sem.wp_mono _ _ _ (fun v p' s' g => ?_) (fun e p' s' g => ?_) _ _ (call0 (Q := fun v s' => GoodWG r.claim (classAt s.heap) (ExcName.means s.heap) args s₁ (.ok (.ret v)) s') (E := fun e s' => GoodWG r.claim (classAt s.heap) (ExcName.means s.heap) args s₁ (.error e) s') hc)
  · have z := g.laid (c := r.claim) hsame hwi hi L
    exact ⟨_, rfl, z.1, z.2.1, z.2.2, fun q => ⟨namesKept_of hT' hg _ keeps g.2.1.old, noTable hwr q⟩⟩
  · have z := g.laid (c := r.claim) hsame hwi hi L
    exact ⟨z.1, z.2.1, z.2.2, fun q => ⟨namesKept_of hT' hg _ keeps g.2.1.old, noTable hwr q⟩⟩
theorem fn_of {K : Frag} {n : Nat} (e : fnO K n = fnV n) : nsIn K mainGlobals (fnName n) = some (some (.ref (faL n))) ∧ ∃ o doc pm an cd, K.lookup (faL n) = some o ∧ o.data = .func (fnX (fnName n) (fnName n) (fnParams n) (fnBody n) (fnScope n) [] .none .none doc pm an cd .none) ∧ codeIn K cd (fnName n) = true := by
  obtain ⟨e1, e2⟩ := Prod.mk.inj e
  obtain ⟨e2, e3⟩ := Prod.mk.inj e2
  obtain ⟨o, a, b⟩ := fdOf_some e2
  exact ⟨e1, o, _, _, _, _, a, b, e3⟩
set_option maxHeartbeats 4000000 in
theorem kf_of {K : Frag} (e : kO K = kV) : KF K := by
  simp only [kO, kV, Prod.mk.injEq, List.cons.injEq, and_true] at e
  obtain ⟨⟨f1, f2, f3, f9, f11, f12, f13, f14, f15, f16, f17, f18, f19⟩, ⟨b1, b2, b3, b4, b5, b6, b7, b8, b9⟩, ⟨c1, c2, c3, c4, c5, c6, c7, c8, c9⟩, ⟨n1, n2, n3, n4, n5, n6, n7, n8, n9, n10⟩, ⟨d1, d2, d3, d4, d5, d6, d7, d8, d9, d10, d11, d12, d13⟩, g, t⟩ := e
  have h11 := f11
  obtain ⟨_, e2⟩ := Prod.mk.inj h11
  obtain ⟨e2, e3⟩ := Prod.mk.inj e2
  obtain ⟨o, a, b⟩ := fdOf_some e2
  obtain ⟨o4, a4, b4'⟩ := fdOf_some g
  refine { nt := b1, fn := ?_, st := ⟨o, _, _, _, a, b, e3⟩, code := b2, bi := ?_, cls := d1, er := d2, ep := d3, xr := b3, xp := b4, ga := d4, gn := d5, rd := d6, kx := ⟨b5, d7, t, ⟨o4, _, _, _, _, _, a4, b4', b6⟩, d8, b7, d9, d10, b8, b9⟩, kv := ⟨d11, c9⟩, rr := c1, pr := c2, pp := c3, vr := c4, vp := c5, vv := c6, sr := d12, sp := d13, br := c7, bp := c8 }
  · intro n hn
    simp only [List.mem_cons, List.not_mem_nil, or_false] at hn
    rcases hn with rfl | rfl | rfl | rfl | rfl | rfl | rfl | rfl | rfl | rfl | rfl | rfl | rfl
    · exact fn_of f1
    · exact fn_of f2
    · exact fn_of f3
    · exact fn_of f9
    · exact fn_of f11
    · exact fn_of f12
    · exact fn_of f13
    · exact fn_of f14
    · exact fn_of f15
    · exact fn_of f16
    · exact fn_of f17
    · exact fn_of f18
    · exact fn_of f19
  · intro p hp
    simp only [biList, List.mem_cons, List.not_mem_nil, or_false] at hp
    rcases hp with rfl | rfl | rfl | rfl | rfl | rfl | rfl | rfl | rfl | rfl <;> assumption
set_option maxHeartbeats 8000000 in
theorem whole : PySem.Challenge.rw_of0005_01.Holds := by
  w_on
  o_law
  refine holds_core (q := vq PySem.Challenge.pw_of0005_01) (loose := []) (Xt := fun s => xlAt (vq PySem.Challenge.pw_of0005_01) [] s && recOk (RowW.records PySem.Challenge.rw_of0005_01.row.toRowW) s) (XP := XL (vq PySem.Challenge.pw_of0005_01) []) (Yf := Hook.obs hk) (Ya := Hook.val hk) (YP := Hook.says hk) (N := 3000) ?hl (Hook.of hk) (Hook.keeps hk) (fun s e => xl_of s (Bool.and_eq_true_iff.mp e).1) XL.keeps (by rfl) (by rfl) (by rfl) (fun s e => recFacts_of (Bool.and_eq_true_iff.mp e).2) (by rfl) (by first | assumption | decide +kernel) (by decide +kernel) ⟨rfl, rfl, rfl, rfl, rfl, by decide +kernel⟩ ?hw ?hc
  case hl => exact left_boot (by rfl) (by rfl) (by intro s; rfl) top_run
  case hw => w_witness2
  intro w s₀ s₁ mg mb G Y fo o pm cd doc dV kV ho hdat hcd hD hmg hgens args vals as hpre hlay hrd hwl hlo
  obtain ⟨⟨K, X, hK⟩, t102⟩ := Y
  refine Ground.open G ?_
  intro T B D TE TW
  obtain ⟨_, rfl⟩ | ⟨q, _⟩ := hD.pos
  · obtain ⟨_, rfl⟩ | ⟨q, _⟩ := hD.kw
    · wrow_args hpre hlay hrd hwl hlo
      rename_i ns _ _ _ _ _ _ _ sa vs _ hL _ _ _ hI _ hc _
      refine final (ns := ns) (doc := doc) (pm := pm) (an := none) (cd := cd) (ct := .none) (kf_of hK) (plain_all ns) X t102 T ho hdat hcd hL hI (by omega) hgens (fun _ => rfl) ?_
      first | rfl | kernel_rfl | decide
    · exact absurd rfl q
  · exact absurd rfl q
end Mine
theorem PySem.Challenge.cw_of0005_01_holds : PySem.Challenge.rw_of0005_01.Holds :=
  Mine.whole
