import PyProof.Rows.All
import Wide.All
import OpenK.AllK
import Wide.FinOn
import KE.KNest
import PySem.Challenge.RW_sh0026_02
set_option Elab.async false
set_option maxRecDepth 100000
set_option linter.unusedVariables false
open PySem PySem.W PyProof.Rows PySem.Spec
namespace Mine
section
set_option Elab.async false
set_option maxHeartbeats 8000000
noncomputable def fragOn (h : Heap) : List Addr -> Frag
  | [] => []
  | a :: r => match h.get? a with
    | some o => (a,o) :: fragOn h r
    | none => fragOn h r
theorem fragOn_in (h : Heap) : ∀ as : List Addr,(fragOn h as).In h
  | [],_,_,e => nomatch e
  | a :: r,b,o,e => by
    unfold fragOn at e
    cases q : h.get? a with
    | none => rw [q] at e; exact fragOn_in h r b o e
    | some p =>
      rw [q] at e
      change (List.lookup b ((a,p) :: fragOn h r)) = some o at e
      rw [List.lookup_cons] at e
      cases k : b == a with
      | true => rw [k] at e; cases e; rw [eq_of_beq k]; exact q
      | false => rw [k] at e; exact fragOn_in h r b o e
noncomputable def emptyTab (K : Frag) (P : Addr) : Bool := match K.lookup P with
  | some ⟨.none,none,.fields ⟨[]⟩,⟨[]⟩⟩ => true
  | _ => false
theorem emptyTab_of {K : Frag} {h : Heap} (X : K.In h) {P : Addr} (e : emptyTab K P = true) : h.get? P = some (tabObj #[]) := by
  unfold emptyTab at e
  split at e
  · rename_i q; exact X _ _ q
  · cases e
noncomputable def tabEq (K : Frag) (x : Str) (c P : Addr) : Bool := match tabIn K x with
  | some (c',P') => Nat.beq c' c && Nat.beq P' P
  | none => false
theorem tabEq_of {K : Frag} {x : Str} {c P : Addr} (e : tabEq K x c P = true) : tabIn K x = some (c,P) := by
  unfold tabEq at e
  cases q : tabIn K x with
  | none => rw [q] at e; cases e
  | some z =>
    obtain ⟨c',P'⟩ := z
    rw [q] at e
    obtain ⟨a,b⟩ := Bool.and_eq_true_iff.mp e
    rw [Nat.eq_of_beq_eq_true a,Nat.eq_of_beq_eq_true b]
noncomputable def handIn (K : Frag) (q : Str × Addr × Addr) : Bool := tabEq K q.1 q.2.1 q.2.2 && (codeHdIn K q.2.1 q.2.2 && emptyTab K q.2.2)
noncomputable def HandsAt (qs : List (Str × Addr × Addr)) (h : Heap) : Prop := ∃ K : Frag,K.In h /\ ∀ q ∈ qs,handIn K q = true
noncomputable def hook (qs : List (Str × Addr × Addr)) : Hook where
  α := Bool
  obs := fun s => qs.all (handIn (fragOn s.heap (List.range s.heap.objs.size)))
  val := fun _ => true
  says := fun _ h => HandsAt qs h
  of := fun _ _ e => ⟨_,fragOn_in _ _,List.all_eq_true.mp e⟩
  keeps := fun _ _ _ ⟨K,X,e⟩ k => ⟨K,X.keeps k,e⟩
noncomputable def tabs0 (qs : List (Str × Addr × Addr)) : List (Addr × Addr) := qs.map (·.2)
theorem HandsAt.tabs {qs : List (Str × Addr × Addr)} {h : Heap} (H : HandsAt qs h) : TabsAt (tabs0 qs) h := fun q hq => by
  obtain ⟨K,X,e⟩ := H
  obtain ⟨z,hz,rfl⟩ := List.mem_map.mp hq
  obtain ⟨_,b⟩ := Bool.and_eq_true_iff.mp (e z hz)
  obtain ⟨b,c⟩ := Bool.and_eq_true_iff.mp b
  exact ⟨codeHd_of_K X b,emptyTab_of X c⟩
theorem HandsAt.code {qs : List (Str × Addr × Addr)} {h : Heap} (H : HandsAt qs h) : ∃ K : Frag,K.In h /\ ∀ q ∈ qs,tabIn K q.1 = some q.2 := by
  obtain ⟨K,X,e⟩ := H
  exact ⟨K,X,fun q hq => tabEq_of (Bool.and_eq_true_iff.mp (e q hq)).1⟩
abbrev P1 : Program := PySem.Challenge.pw_sh0026_02
noncomputable def vw1 : Program := view P1 [1,2,3,4,5,6,7,9,10,12,13,15,16,17,18,19,20,21,22,23,24,25]
noncomputable def ls1 : List Str := [Str.ofString "COMPILER_FLAG_NAMES"]
noncomputable def qs1 : List (Str × Addr × Addr) := [("_int2digits",34,30),("_digits2int",41,37)]
abbrev r1 : OpenRow := PySem.Challenge.rw_sh0026_02.row
noncomputable abbrev Xt1 : Shared -> Bool := fun s => xlAt vw1 [] s && recOk (RowW.records r1.toRowW) s
theorem said1 : PySem.Challenge.rw_sh0026_02.wellSaid = true := by decide +kernel
theorem left1 : LeftO P1 vw1 ls1 Xt1 (hook qs1).obs (hook qs1).val 1490 := by
  refine LeftO.of_split "special-get-raises" ?_
  intro w; kernel_rfl
theorem def_of {q p : Program} {x : Str} (h1 : (defOf q x).isSome = true) (h2 : (defOf q x).map (fun y => (p.theDef x,kwWritten? y.1.params.kwonlyargs y.1.params.kw_defaults)) = (defOf q x).map fun y => (some (y.1.params,y.1.body,y.1.scope),some y.2)) :
    ∃ d kwd,defOf q x = some (d,kwd) /\ p.theDef x = some (d.params,d.body,d.scope) /\ kwWritten? d.params.kwonlyargs d.params.kw_defaults = some kwd := by
  obtain ⟨⟨d,k⟩,e⟩ := Option.isSome_iff_exists.mp h1
  rw [e] at h2
  obtain ⟨a,b⟩ := Prod.mk.inj (Option.some.inj h2)
  exact ⟨d,k,e,a,b⟩
theorem head1 (hw : r1.toRowW.promised) (call : ∀ d kwd,d.name = r1.name -> WalkO vw1 ls1 (XL vw1 []) (hook qs1).says r1.toRowW d kwd fun f vs => PySem.call f vs) : PySem.Challenge.rw_sh0026_02.Holds := by
  obtain ⟨d,kwd,hdef,hp,hk⟩ := def_of (q:=vw1) (p:=P1) (x:=r1.name) (by kernel_rfl) (by kernel_rfl)
  exact holds_law said1 fun said => holds_open (q:=vw1) (loose:=ls1) (Xt:=Xt1) (XP:=XL vw1 []) (Yf:=(hook qs1).obs) (Ya:=(hook qs1).val) (YP:=(hook qs1).says) (N:=1490) left1 (hook qs1).of (hook qs1).keeps
    (fun s e => xl_of s (Bool.and_eq_true_iff.mp e).1) XL.keeps hdef hp hk (fun s e => recFacts_of (Bool.and_eq_true_iff.mp e).2) rfl said (by decide +kernel) ⟨rfl,rfl,rfl,rfl,rfl,by decide +kernel⟩ hw (call d kwd (defOf_name hdef))
end
section
inductive V where
  | none
  | bool (b : Bool)
  | int (i : Int)
  | str (x : Str)
  | tup (l : List V)
  | list (l : List V)
mutual
noncomputable def V.py : V -> PyData
  | .none => .none
  | .bool b => .bool b
  | .int i => .int i
  | .str x => .str x
  | .tup l => .tuple (V.pys l)
  | .list l => .list (V.pys l)
noncomputable def V.pys : List V -> List PyData
  | [] => []
  | x :: r => V.py x :: V.pys r
end
noncomputable abbrev Fz := Addr -> Option Obj
mutual
inductive Rep (Φ : Fz) : V -> Value -> Prop
  | none : Rep Φ .none .none
  | bool (b : Bool) : Rep Φ (.bool b) (.bool b)
  | int (i : Int) (t : Tok) : Rep Φ (.int i) (.int i t)
  | str (x : Str) (t : Tok) : Rep Φ (.str x) (.str x t)
  | tup {a : Addr} {vs : Array Value} {n : Nat} {l : List V} : Φ a = some { cls := .type "tuple",data := .seq vs n } -> Reps Φ l vs.toList -> Rep Φ (.tup l) (.ref a)
  | list {a : Addr} {vs : Array Value} {n : Nat} {l : List V} : Φ a = some { cls := .type "list",data := .seq vs n } -> Reps Φ l vs.toList -> Rep Φ (.list l) (.ref a)
inductive Reps (Φ : Fz) : List V -> List Value -> Prop
  | nil : Reps Φ [] []
  | cons {d : V} {v : Value} {ds : List V} {vs : List Value} : Rep Φ d v -> Reps Φ ds vs -> Reps Φ (d :: ds) (v :: vs)
end
noncomputable def Fz.le (Φ Φ' : Fz) : Prop := ∀ a o,Φ a = some o -> Φ' a = some o
noncomputable def Fz.In (Φ : Fz) (h : Heap) : Prop := ∀ a o,Φ a = some o -> h.get? a = some o
theorem Fz.le.refl (Φ : Fz) : Φ.le Φ := fun _ _ h => h
theorem Fz.le.trans {Φ Φ' Φ'' : Fz} (x : Φ.le Φ') (y : Φ'.le Φ'') : Φ.le Φ'' := fun a o h => y a o (x a o h)
mutual
theorem Rep.mono {Φ Φ' : Fz} (k : Φ.le Φ') : ∀ {d : V} {v : Value},Rep Φ d v -> Rep Φ' d v
  | _,_,.none => .none
  | _,_,.bool b => .bool b
  | _,_,.int i t => .int i t
  | _,_,.str x t => .str x t
  | _,_,.tup h1 h4 => .tup (k _ _ h1) (Reps.mono k h4)
  | _,_,.list h1 h4 => .list (k _ _ h1) (Reps.mono k h4)
theorem Reps.mono {Φ Φ' : Fz} (k : Φ.le Φ') : ∀ {ds : List V} {vs : List Value},Reps Φ ds vs -> Reps Φ' ds vs
  | _,_,.nil => .nil
  | _,_,.cons h1 h2 => .cons (Rep.mono k h1) (Reps.mono k h2)
end
mutual
theorem Rep.reads {Φ : Fz} {h : Heap} (k : Φ.In h) : ∀ {d : V} {v : Value},Rep Φ d v -> ∃ as,Reads h v d.py as
  | _,_,.none => ⟨_,by rw [V.py]; exact .none⟩
  | _,_,.bool b => ⟨_,by rw [V.py]; exact .bool b⟩
  | _,_,.int i t => ⟨_,by rw [V.py]; exact .int i t⟩
  | _,_,.str x t => ⟨_,by rw [V.py]; exact .str x t⟩
  | _,_,.tup h1 h4 => by
    obtain ⟨as,q⟩ := Reps.reads k h4
    exact ⟨_,by rw [V.py]; exact .tuple (k _ _ h1) rfl rfl q⟩
  | _,_,.list h1 h4 => by
    obtain ⟨as,q⟩ := Reps.reads k h4
    exact ⟨_,by rw [V.py]; exact .list (k _ _ h1) rfl rfl q⟩
theorem Reps.reads {Φ : Fz} {h : Heap} (k : Φ.In h) : ∀ {ds : List V} {vs : List Value},Reps Φ ds vs -> ∃ as,ReadsAll h vs (V.pys ds) as
  | _,_,.nil => ⟨_,by rw [V.pys]; exact .nil⟩
  | _,_,.cons h1 h2 => by
    obtain ⟨as,q⟩ := Rep.reads k h1
    obtain ⟨bs,p⟩ := Reps.reads k h2
    exact ⟨_,by rw [V.pys]; exact .cons q p⟩
end
section
variable {Φ : Fz}
theorem Reps.length {ds : List V} {vs : List Value} (h : Reps Φ ds vs) : vs.length = ds.length := by
  induction vs generalizing ds with
  | nil => cases h; rfl
  | cons v vs ih => cases h with | cons _ r => rw [List.length_cons,List.length_cons,ih r]
theorem Reps.append {ds es : List V} {vs ws : List Value} (h : Reps Φ ds vs) (k : Reps Φ es ws) : Reps Φ (ds ++ es) (vs ++ ws) := by
  induction vs generalizing ds with
  | nil => cases h; exact k
  | cons v vs ih => cases h with | cons h r => exact .cons h (ih r)
theorem Reps.one {d : V} {v : Value} (h : Rep Φ d v) : Reps Φ [d] [v] := .cons h .nil
theorem Reps.get {ds : List V} {vs : List Value} (h : Reps Φ ds vs) {i : Nat} {d : V} (e : ds[i]? = some d) : ∃ v,vs[i]? = some v /\ Rep Φ d v := by
  induction vs generalizing ds i with
  | nil => cases h; simp at e
  | cons v vs ih =>
    cases h with
    | cons h r =>
      cases i with
      | zero => simp at e; subst e; exact ⟨v,rfl,h⟩
      | succ i => simp at e; obtain ⟨w,q1,q2⟩ := ih r e; exact ⟨w,by simpa using q1,q2⟩
theorem Reps.getV {ds : List V} {vs : List Value} (h : Reps Φ ds vs) {i : Nat} {v : Value} (e : vs[i]? = some v) : ∃ d,ds[i]? = some d /\ Rep Φ d v := by
  induction vs generalizing ds i with
  | nil => simp at e
  | cons v vs ih =>
    cases h with
    | cons h r =>
      cases i with
      | zero => simp at e; subst e; exact ⟨_,rfl,h⟩
      | succ i => simp at e; obtain ⟨w,q1,q2⟩ := ih r e; exact ⟨w,by simpa using q1,q2⟩
theorem Reps.drop {ds : List V} {vs : List Value} (h : Reps Φ ds vs) (n : Nat) : Reps Φ (ds.drop n) (vs.drop n) := by
  induction n generalizing ds vs with
  | zero => simpa using h
  | succ n ih =>
    cases h with
    | nil => simpa using Reps.nil
    | cons h r => simpa using ih r
theorem Reps.take {ds : List V} {vs : List Value} (h : Reps Φ ds vs) (n : Nat) : Reps Φ (ds.take n) (vs.take n) := by
  induction n generalizing ds vs with
  | zero => simpa using Reps.nil
  | succ n ih =>
    cases h with
    | nil => simpa using Reps.nil
    | cons h r => simpa using Reps.cons h (ih r)
theorem Reps.reverse {ds : List V} {vs : List Value} (h : Reps Φ ds vs) : Reps Φ ds.reverse vs.reverse := by
  induction vs generalizing ds with
  | nil => cases h; exact .nil
  | cons v vs ih => cases h with | cons h r => simpa using (ih r).append (.one h)
theorem Reps.set {ds : List V} {vs : List Value} {d : V} {v : Value} (h : Reps Φ ds vs) (e : Rep Φ d v) (i : Nat) : Reps Φ (ds.set i d) (vs.set i v) := by
  induction vs generalizing ds i with
  | nil => cases h; exact .nil
  | cons w vs ih =>
    cases h with
    | cons h r =>
      cases i with
      | zero => exact .cons e r
      | succ i => exact .cons h (ih r i)
theorem Reps.replicate {d : V} {v : Value} (e : Rep Φ d v) : ∀ n : Nat,Reps Φ (List.replicate n d) (List.replicate n v)
  | 0 => .nil
  | n + 1 => .cons e (Reps.replicate e n)
theorem Reps.flatten {ds : List V} {vs : List Value} (h : Reps Φ ds vs) : ∀ n : Nat,Reps Φ (List.replicate n ds).flatten (List.replicate n vs).flatten
  | 0 => .nil
  | n + 1 => by simpa [List.replicate_succ] using h.append (Reps.flatten h n)
end
structure Cx where
  prog : Program
  w : World
  b0 : Heap
  T : List Addr
  J : Fz -> Heap -> Prop
  os : OsState
  mg : Str -> Option Value
  mb : Str -> Option Value
  J_ext : ∀ (Φ Φ' : Fz) (h h' : Heap),J Φ h -> Φ.le Φ' -> (∀ a ∈ T,∀ o,h.get? a = some o -> h'.get? a = some o) -> J Φ' h'
  J_at : ∀ (Φ : Fz) (h : Heap),J Φ h -> ∀ a ∈ T,∃ o,h.get? a = some o
  nolimit : b0.NoLimit
  g : b0.Ns mainGlobals mg
  b : b0.Ns builtinsNs mb
structure OkS (c : Cx) (Φ : Fz) (s : Shared) : Prop where
  base : ∀ a o,c.b0.get? a = some o -> Φ a = some o
  inn : Φ.In s.heap
  tabs : c.J Φ s.heap
  tn : ∀ a ∈ c.T,Φ a = none
  gens : s.gens = #[]
  os : s.os = c.os
structure Wd (c : Cx) (X : Addr -> Prop) (Φ : Fz) (s : Shared) (Φ' : Fz) (s' : Shared) : Prop where
  le : Φ.le Φ'
  ok : OkS c Φ' s'
  pres : ∀ b o,s.heap.get? b = some o -> b ∉ c.T -> ¬ X b -> s'.heap.get? b = some o
  new : ∀ a o,Φ' a = some o -> Φ a = some o ∨ X a ∨ s.heap.get? a = none
  grow : ∀ b,¬ X b -> (s.heap.get? b).isSome = true -> (s'.heap.get? b).isSome = true
noncomputable abbrev NoX : Addr -> Prop := fun _ => False
noncomputable abbrev NoE : Value -> Shared -> Prop := fun _ _ => False
section
variable {c : Cx} {X X' : Addr -> Prop} {Φ Φ' Φ'' : Fz} {s s' s'' : Shared}
theorem Wd.refl (k : OkS c Φ s) : Wd c X Φ s Φ s := ⟨.refl _,k,fun b o e _ _ => e,fun _ _ e => .inl e,fun _ _ e => e⟩
theorem Wd.up (x : Wd c NoX Φ s Φ' s') : ∀ b,(s.heap.get? b).isSome = true -> (s'.heap.get? b).isSome = true := fun b e => x.grow b id e
theorem none_back {h h' : Heap} (g : ∀ b,(h.get? b).isSome = true -> (h'.get? b).isSome = true) {a : Addr} (e : h'.get? a = none) : h.get? a = none := by
  cases q : h.get? a with
  | none => rfl
  | some o => have := g a (by rw [q]; rfl); rw [e] at this; cases this
theorem Wd.trans (x : Wd c X Φ s Φ' s') (y : Wd c X' Φ' s' Φ'' s'') (h : ∀ a,X' a -> X a ∨ s.heap.get? a = none) : Wd c X Φ s Φ'' s'' where
  le := x.le.trans y.le
  ok := y.ok
  pres b o e h2 h3 := y.pres b o (x.pres b o e h2 h3) h2 fun q => by
    rcases h b q with r | r
    · exact h3 r
    · rw [r] at e; cases e
  new a o e := by
    rcases y.new a o e with q | q | q
    · exact x.new a o q
    · rcases h a q with r | r
      · exact .inr (.inl r)
      · exact .inr (.inr r)
    · by_cases hx : X a
      · exact .inr (.inl hx)
      · refine .inr (.inr ?_)
        cases r : s.heap.get? a with
        | none => rfl
        | some o => have := x.grow a hx (by rw [r]; rfl); rw [q] at this; cases this
  grow b hb e := y.grow b (fun q => by
    rcases h b q with r | r
    · exact hb r
    · rw [r] at e; cases e) (x.grow b hb e)
theorem Wd.then (x : Wd c X Φ s Φ' s') (y : Wd c NoX Φ' s' Φ'' s'') : Wd c X Φ s Φ'' s'' := x.trans y fun _ q => q.elim
theorem Wd.weak (x : Wd c X Φ s Φ' s') (h : ∀ a,X a -> X' a ∨ s.heap.get? a = none) : Wd c X' Φ s Φ' s' where
  le := x.le
  ok := x.ok
  pres b o e h2 h3 := x.pres b o e h2 fun q => by
    rcases h b q with r | r
    · exact h3 r
    · rw [r] at e; cases e
  new a o e := by
    rcases x.new a o e with q | q | q
    · exact .inl q
    · rcases h a q with r | r
      · exact .inr (.inl r)
      · exact .inr (.inr r)
    · exact .inr (.inr q)
  grow b hb e := x.grow b (fun q => by
    rcases h b q with r | r
    · exact hb r
    · rw [r] at e; cases e) e
theorem Wd.any (x : Wd c NoX Φ s Φ' s') : Wd c X Φ s Φ' s' := x.weak fun _ q => q.elim
theorem Wd.write (k : OkS c Φ s) {h' : Heap} {tk : Tok} (hk : ∀ b o,s.heap.get? b = some o -> ¬ X b -> h'.get? b = some o)
    (hX : ∀ b,X b -> Φ b = none /\ b ∉ c.T) :
    Wd c X Φ s Φ { s with heap := h',toks := tk } where
  le := .refl _
  ok := ⟨k.base,fun a o e => hk a o (k.inn a o e) (fun q => by rw [(hX a q).1] at e; cases e),
    c.J_ext _ _ _ _ k.tabs (.refl _) (fun a ha o e => hk a o e fun q => (hX a q).2 ha),k.tn,k.gens,k.os⟩
  pres b o e _ h3 := hk b o e h3
  new a o e := .inl e
  grow b q e := by
    obtain ⟨o,r⟩ := Option.isSome_iff_exists.mp e
    rw [hk b o r q]; rfl
theorem Wd.keep (k : OkS c Φ s) {h' : Heap} {tk : Tok} (hk : ∀ b o,s.heap.get? b = some o -> h'.get? b = some o) :
    Wd c X Φ s Φ { s with heap := h',toks := tk } := (Wd.write (X:=NoX) k (fun b o e _ => hk b o e) fun _ q => q.elim).any
theorem Wd.tok (k : OkS c Φ s) {tk : Tok} : Wd c X Φ s Φ { s with toks := tk } := Wd.keep k fun _ _ e => e
theorem Wd.push (k : OkS c Φ s) {o : Obj} {tk : Tok} : Wd c X Φ s Φ { s with heap := s.heap.push o,toks := tk } := Wd.keep k fun _ _ e => Heap.get?_push_of_some _ e
noncomputable def Fz.add (Φ : Fz) (a : Addr) (o : Obj) : Fz := fun b => if b = a then some o else Φ b
theorem Fz.add_self {Φ : Fz} {a : Addr} {o : Obj} : Φ.add a o a = some o := by simp [Fz.add]
theorem Fz.le_add {Φ : Fz} {a : Addr} {o : Obj} (h : Φ a = none) : Φ.le (Φ.add a o) := fun b o' e => by
  unfold Fz.add
  by_cases q : b = a
  · subst q; rw [h] at e; cases e
  · rw [if_neg q]; exact e
theorem Wd.freeze (x : Wd c X Φ s Φ' s') {a : Addr} {o : Obj} (e : s'.heap.get? a = some o) (hn : Φ' a = none) (hT : a ∉ c.T) (hf : X a ∨ s.heap.get? a = none) :
    Wd c X Φ s (Φ'.add a o) s' where
  le := x.le.trans (Fz.le_add hn)
  ok := ⟨fun b o' q => Fz.le_add hn _ _ (x.ok.base b o' q),fun b o' q => by
      unfold Fz.add at q
      by_cases r : b = a
      · subst r; rw [if_pos rfl] at q; cases q; exact e
      · rw [if_neg r] at q; exact x.ok.inn b o' q,
    c.J_ext _ _ _ _ x.ok.tabs (Fz.le_add hn) (fun _ _ _ e => e),fun b hb => by
      unfold Fz.add
      have r : b ≠ a := fun r => by subst r; exact hT hb
      rw [if_neg r]; exact x.ok.tn b hb,x.ok.gens,x.ok.os⟩
  pres := x.pres
  new b o' q := by
    unfold Fz.add at q
    by_cases r : b = a
    · subst r; rcases hf with hf | hf
      · exact .inr (.inl hf)
      · exact .inr (.inr hf)
    · rw [if_neg r] at q; exact x.new b o' q
  grow := x.grow
theorem OkS.fresh_T (k : OkS c Φ s) {a : Addr} (h : s.heap.get? a = none) : a ∉ c.T := fun q => by
  obtain ⟨o,e⟩ := c.J_at _ _ k.tabs a q; rw [h] at e; cases e
theorem OkS.fresh_F (k : OkS c Φ s) {a : Addr} (h : s.heap.get? a = none) : Φ a = none := by
  cases q : Φ a with
  | none => rfl
  | some o => rw [k.inn a o q] at h; cases h
theorem get_size (h : Heap) : h.get? h.objs.size = none := Heap.get?_none_of_le (Nat.le_refl _)
theorem Wd.made (k : OkS c Φ s) {o : Obj} {tk : Tok} (hf : o.isFreed = false) :
    Wd c X Φ s (Φ.add s.heap.objs.size o) { s with heap := s.heap.push o,toks := tk } :=
  (Wd.push k).freeze (Heap.get?_push_size _ hf) (k.fresh_F (get_size _)) (k.fresh_T (get_size _)) (.inr (get_size _))
end
inductive D where
  | v (d : V)
  | t (l : List V)
  | o (i : Nat) (l : List V)
noncomputable def IsPl (h : Heap) (a : Addr) (vs : List Value) : Prop := ∃ n,h.get? a = some { cls := .type "list",data := .seq vs.toArray n }
theorem IsPl.isList {h : Heap} {a : Addr} {vs : List Value} (x : IsPl h a vs) : h.IsList a vs.toArray := let ⟨n,e⟩ := x; ⟨_,e,rfl,n,rfl⟩
theorem IsPl.plain {h : Heap} {a : Addr} {vs : List Value} (x : IsPl h a vs) : h.PlainList a vs.toArray := x
theorem IsPl.of {h : Heap} {a : Addr} {vs : Array Value} (x : h.PlainList a vs) : IsPl h a vs.toList := let ⟨n,e⟩ := x; ⟨n,by simpa using e⟩
theorem IsPl.some {h : Heap} {a : Addr} {vs : List Value} (x : IsPl h a vs) : ∃ o,h.get? a = some o := let ⟨n,e⟩ := x; ⟨_,e⟩
noncomputable abbrev Ow := Addr -> Option Nat
noncomputable def RepD (c : Cx) (O : Ow) (h0 : Heap) (Φ : Fz) (h : Heap) : D -> Value -> Prop
  | .v d,x => Rep Φ d x
  | .t l,x => ∃ a vs,x = .ref a /\ IsPl h a vs /\ Reps Φ l vs /\ Φ a = none /\ a ∉ c.T /\ h0.get? a = none
  | .o i l,x => ∃ a vs,x = .ref a /\ IsPl h a vs /\ Reps Φ l vs /\ O a = some i /\ a ∉ c.T
section
variable {c : Cx} {O : Ow} {X X' : Addr -> Prop} {Φ Φ' Φ'' : Fz} {s s' s'' : Shared} {h0 : Heap} {d : D} {x : Value}
theorem RepD.step (r : RepD c O h0 Φ s.heap d x) (w : Wd c NoX Φ s Φ' s') : RepD c O h0 Φ' s'.heap d x := by
  cases d with
  | v d => exact Rep.mono w.le r
  | t l =>
    obtain ⟨a,vs,rfl,⟨n,e⟩,h2,h3,h4,h5⟩ := r
    refine ⟨a,vs,rfl,⟨n,w.pres a _ e h4 id⟩,h2.mono w.le,?_,h4,h5⟩
    cases q : Φ' a with
    | none => rfl
    | some o =>
      rcases w.new a o q with q | q | q
      · rw [h3] at q; cases q
      · exact q.elim
      · rw [e] at q; cases q
  | o i l =>
    obtain ⟨a,vs,rfl,⟨n,e⟩,h2,h3,h4⟩ := r
    exact ⟨a,vs,rfl,⟨n,w.pres a _ e h4 id⟩,h2.mono w.le,h3,h4⟩
theorem RepD.base {h1 : Heap} (r : RepD c O h1 Φ s.heap d x) (g : ∀ b,(h0.get? b).isSome = true -> (h1.get? b).isSome = true) : RepD c O h0 Φ s.heap d x := by
  cases d with
  | v d => exact r
  | t l =>
    obtain ⟨a,vs,rfl,h1,h2,h3,h4,h5⟩ := r
    exact ⟨a,vs,rfl,h1,h2,h3,h4,none_back g h5⟩
  | o i l => exact r
end
noncomputable def PostD (c : Cx) (O : Ow) (Φ : Fz) (s : Shared) (d : D) (v : Value) (s' : Shared) : Prop :=
  ∃ Φ',Wd c NoX Φ s Φ' s' /\ RepD c O s.heap Φ' s'.heap d v
noncomputable def PostV (c : Cx) (Φ : Fz) (s : Shared) (d : V) (v : Value) (s' : Shared) : Prop :=
  ∃ Φ',Wd c NoX Φ s Φ' s' /\ Rep Φ' d v
noncomputable def D.fz : D -> Option V
  | .v d => some d
  | .t l => some (.list l)
  | .o _ _ => none
noncomputable abbrev Loc := List (Option D)
noncomputable def Mut (env : Env) (b : Addr) : Prop := b = env.locals ∨ ∃ x,env.cells.lookup x = some b
noncomputable def Var (i : Nat) : D -> Prop
  | .v _ => True
  | .t _ => False
  | .o j _ => j = i
structure FrOk (c : Cx) (nm : List Str) (env : Env) (ρ : Loc) (O : Ow) (Φ : Fz) (s : Shared) : Prop where
  kind : env.scope.kind = .function
  glb : env.globals = mainGlobals
  blt : env.builtins = builtinsNs
  ns : ∃ m,s.heap.Ns env.locals m /\ ∀ (i : Nat) (x : Str) (d : D),nm[i]? = some x -> env.kindOf x = some .local -> ρ[i]? = some (some d) -> ∃ v,m x = some v /\ RepD c O s.heap Φ s.heap d v /\ Var i d
  cell : ∀ x cl,env.cells.lookup x = some cl -> ∃ v,s.heap.IsCell cl v /\ ((env.kindOf x = some .cell ∨ env.kindOf x = some .free) -> ∀ (i : Nat) (d : D),nm[i]? = some x -> ρ[i]? = some (some d) -> ∃ w,v = some w /\ RepD c O s.heap Φ s.heap d w /\ Var i d)
  has : ∀ x,env.kindOf x = some .cell ∨ env.kindOf x = some .free -> ∃ cl,env.cells.lookup x = some cl
  apart : ∀ x y cl,env.cells.lookup x = some cl -> env.cells.lookup y = some cl -> x = y
  Lc : ∀ x cl,env.cells.lookup x = some cl -> cl ≠ env.locals
  off : ∀ b,Mut env b -> Φ b = none /\ O b = none /\ b ∉ c.T
  own : ∀ a i,O a = some i -> (∃ o,s.heap.get? a = some o) /\ Φ a = none /\ a ∉ c.T
  uni : ∀ a b i,O a = some i -> O b = some i -> a = b
section
variable {c : Cx} {nm : List Str} {env : Env} {ρ : Loc} {O : Ow} {X X' : Addr -> Prop} {Φ Φ' Φ'' : Fz} {s s' s'' : Shared} {h0 : Heap} {d : D} {x : Value}
theorem FrOk.alive (F : FrOk c nm env ρ O Φ s) {b : Addr} (h : Mut env b) : ∃ o,s.heap.get? b = some o := by
  rcases h with rfl | ⟨x,e⟩
  · obtain ⟨m,⟨o,_,_,h1,_⟩,_⟩ := F.ns; exact ⟨o,h1⟩
  · obtain ⟨v,⟨o,h1,_⟩,_⟩ := F.cell x b e; exact ⟨o,h1⟩
theorem RepD.wide (r : RepD c O s.heap Φ s.heap d x) (w : Wd c X Φ s Φ' s') (hX : ∀ a,X a -> O a = none) : RepD c O s'.heap Φ' s'.heap d x := by
  cases d with
  | v d => exact Rep.mono w.le r
  | t l =>
    obtain ⟨a,vs,rfl,⟨n,e⟩,h2,h3,h4,h5⟩ := r
    rw [e] at h5; cases h5
  | o i l =>
    obtain ⟨a,vs,rfl,⟨n,e⟩,h2,h3,h4⟩ := r
    exact ⟨a,vs,rfl,⟨n,w.pres a _ e h4 fun q => by rw [hX a q] at h3; cases h3⟩,h2.mono w.le,h3,h4⟩
theorem Wd.stays (w : Wd c X Φ s Φ' s') {b : Addr} {o : Obj} (e : s.heap.get? b = some o) (hn : Φ b = none) (hX : ¬ X b) : Φ' b = none := by
  cases q : Φ' b with
  | none => rfl
  | some o' =>
    rcases w.new b o' q with r | r | r
    · rw [hn] at r; cases r
    · exact absurd r hX
    · rw [r] at e; cases e
theorem FrOk.step (F : FrOk c nm env ρ O Φ s) (w : Wd c X Φ s Φ' s') (hX : ∀ a,X a -> ¬ Mut env a /\ O a = none) : FrOk c nm env ρ O Φ' s' where
  kind := F.kind
  glb := F.glb
  blt := F.blt
  ns := by
    obtain ⟨m,⟨o,es,ep,e,r⟩,h2⟩ := F.ns
    have q := F.off _ (.inl rfl)
    exact ⟨m,⟨o,es,ep,w.pres _ _ e q.2.2 fun y => (hX _ y).1 (.inl rfl),r⟩,fun i x d a1 a2 a3 =>
      let ⟨v,b1,b2,b3⟩ := h2 i x d a1 a2 a3; ⟨v,b1,b2.wide w fun a y => (hX a y).2,b3⟩⟩
  cell x cl e := by
    obtain ⟨v,⟨o,eo,h1⟩,h2⟩ := F.cell x cl e
    have q := F.off _ (.inr ⟨x,e⟩)
    exact ⟨v,⟨o,w.pres _ _ eo q.2.2 fun y => (hX _ y).1 (.inr ⟨x,e⟩),h1⟩,fun a0 i d a1 a2 =>
      let ⟨u,b1,b2,b3⟩ := h2 a0 i d a1 a2; ⟨u,b1,b2.wide w fun a y => (hX a y).2,b3⟩⟩
  has := F.has
  uni := F.uni
  apart := F.apart
  Lc := F.Lc
  off b hb := by
    obtain ⟨o,eo⟩ := F.alive hb
    have q := F.off b hb
    exact ⟨w.stays eo q.1 fun y => (hX b y).1 hb,q.2⟩
  own a i e := by
    obtain ⟨⟨o,eo⟩,q1,q2⟩ := F.own a i e
    have hx : ¬ X a := fun y => by rw [(hX a y).2] at e; cases e
    exact ⟨⟨o,w.pres _ _ eo q2 hx⟩,w.stays eo q1 hx,q2⟩
theorem FrOk.next (F : FrOk c nm env ρ O Φ s) (w : Wd c NoX Φ s Φ' s') : FrOk c nm env ρ O Φ' s' := F.step w fun _ q => q.elim
end
noncomputable def Room (A : Around) (n : Nat) : Prop := A.handled = none /\ A.depth + n + 110 < recursionLimit /\ A.units + 6 * n + 200 < cLine
theorem Room.deeper {A : Around} {n : Nat} (h : Room A (n + 1)) (env : Env) : Room (A.deeper env) n := by
  obtain ⟨h1,h2,h3⟩ := h
  refine ⟨h1,?_,?_⟩
  · show A.depth + 1 + n + 110 < _; lia
  · show A.units + 3 + 6 * n + 200 < _; lia
theorem Room.le {A : Around} {n m : Nat} (h : Room A n) (k : m ≤ n) : Room A m := by
  obtain ⟨h1,h2,h3⟩ := h
  exact ⟨h1,by lia,by lia⟩
end
inductive Tgt where
  | n (i : Nat)
  | t (is : List Nat)
inductive Bi where
  | abs | len | sum | max | min | hex | divmod | sorted | range | reversed
  deriving DecidableEq
inductive Me where
  | split | join | bitLength | startswith | endswith | find | count
  deriving DecidableEq
mutual
inductive X where
  | no
  | lit (v : V)
  | var (i : Nat)
  | gl (i : Nat)
  | bin (op : Operator) (a b : X)
  | neg (a : X)
  | inv (a : X)
  | not (a : X)
  | bop (op : BoolOp) (xs : Xs)
  | ite (t a b : X)
  | cmp (op : CmpOp) (a b : X)
  | sub (a i : X)
  | slc (a lo hi st : X)
  | tup (xs : Xs)
  | lst (xs : Xs)
  | comp (gs : Gs)
  | call (f : Nat) (xs : Xs)
  | bi (b : Bi) (xs : Xs)
  | meth (m : Me) (a : X) (xs : Xs)
  | rep (a : X) (y z : Str)
  | flag (k d : X)
inductive Xs where
  | nil
  | cons (x : X) (xs : Xs)
inductive Gs where
  | done (elt : X)
  | cons (t : Tgt) (it : X) (ifs : Xs) (r : Gs)
end
mutual
inductive S where
  | asg (t : Tgt) (x : X)
  | own (i : Nat) (x : X)
  | aug (i : Nat) (op : Operator) (x : X)
  | ife (t : X) (a b : Ss)
  | forr (t : Tgt) (it : X) (body els : Ss)
  | whl (n : Nat) (t : X) (body : Ss)
  | ret (x : X)
  | brk
  | app (i : Nat) (x : X)
  | ins (i : Nat) (x y : X)
  | rvs (i : Nat)
  | del (i : Nat) (k : X)
  | ast (x : X)
  | fz (i : Nat)
  | stop
inductive Ss where
  | nil
  | cons (s : S) (r : Ss)
end
inductive Fl where
  | next
  | brk
  | ret (v : V)
noncomputable def D.items : D -> Option (List V)
  | .v (.list l) => some l
  | .v (.tup l) => some l
  | .t l => some l
  | .o _ l => some l
  | _ => none
noncomputable def D.listOnly : D -> Option (List V)
  | .v (.list l) => some l
  | .t l => some l
  | .o _ l => some l
  | _ => none
noncomputable def D.val : D -> Option V
  | .v d => some d
  | _ => none
noncomputable def D.bool : D -> Option Bool
  | .v (.bool b) => some b
  | _ => none
noncomputable def D.tl : D -> Option (List V)
  | .t l => some l
  | _ => none
noncomputable def V.asStr : V -> Option Str
  | .str x => Option.some x
  | _ => Option.none
noncomputable def D.dat : D -> V
  | .v d => d
  | .t l => .list l
  | .o _ l => .list l
noncomputable def D.int : D -> Option Int
  | .v (.int i) => some i
  | _ => none
noncomputable def D.str : D -> Option Str
  | .v (.str i) => some i
  | _ => none
noncomputable abbrev lim : Nat := 2 ^ 20
noncomputable def bits (n : Int) : Nat := Builtin.Int.intBits n
noncomputable def binInt (op : Operator) (a b : Int) : Option Int :=
  match op with
  | .Add => some (a + b)
  | .Sub => some (a - b)
  | .Mult => if bits a + bits b ≤ 2 ^ 27 then some (a * b) else none
  | .FloorDiv => if b ≠ 0 /\ bits b < 9000 then some (a.fdiv b) else none
  | .Mod => if b ≠ 0 then some (a.fmod b) else none
  | .Pow => if 0 ≤ b /\ (bits a : Int) * b ≤ 2 ^ 27 then some (a ^ b.toNat) else none
  | .LShift => if 0 ≤ b /\ (bits a : Int) + b ≤ 2 ^ 27 then some (a * 2 ^ b.toNat) else none
  | .RShift => if 0 ≤ b then some (a.fdiv (2 ^ b.toNat)) else none
  | .BitAnd => some (Builtin.bitAnd a b)
  | .BitOr => some (Builtin.bitOr a b)
  | .BitXor => some (Builtin.bitXor a b)
  | _ => none
noncomputable def binS (op : Operator) (x : Str) (b : D) : Option D :=
  match op with
  | .Add => b.str.bind fun y => if x.length + y.length ≤ lim then some (.v (.str (x ++ y))) else none
  | .Mult => b.int.bind fun n => if 0 ≤ n /\ n ≤ lim /\ x.length * n.toNat ≤ lim then some (.v (.str (Txt.mul x n))) else none
  | _ => none
noncomputable def binL (op : Operator) (a b : D) : Option D :=
  match op with
  | .Mult => a.tl.bind fun l => b.int.bind fun n => if 0 ≤ n /\ n ≤ lim /\ l.length * n.toNat ≤ lim then some (.t (List.replicate n.toNat l).flatten) else none
  | .Add => a.listOnly.bind fun l => b.listOnly.bind fun m => if l.length + m.length ≤ lim then some (.t (l ++ m)) else none
  | _ => none
noncomputable def binD (op : Operator) (a b : D) : Option D :=
  a.int.elim (a.str.elim (binL op a b) fun x => binS op x b) fun x => b.int.bind fun y => (binInt op x y).map fun z => .v (.int z)
noncomputable def truth : D -> Option Bool
  | .v .none => some false
  | .v (.bool b) => some b
  | .v (.int i) => some (i != 0)
  | .v (.str x) => if x.length ≤ lim then some (x.length != 0) else none
  | .v (.tup _) => none
  | .v (.list l) => if l.length ≤ lim then some (!l.isEmpty) else none
  | .t l => if l.length ≤ lim then some (!l.isEmpty) else none
  | .o _ l => if l.length ≤ lim then some (!l.isEmpty) else none
noncomputable def eqD (a b : V) : Option Bool :=
  a.asStr.elim (if SeqAt.shaped a.py /\ SeqAt.shaped b.py then some (a.py.eqv b.py) else none) fun x => b.asStr.elim none fun y => some (x == y)
noncomputable def allInts : List V -> Option (List Int)
  | [] => some []
  | .int i :: r => (allInts r).map (i :: ·)
  | _ => none
noncomputable def allBools : List V -> Option (List Bool)
  | [] => some []
  | .bool i :: r => (allBools r).map (i :: ·)
  | _ => none
noncomputable def allStrs : List V -> Option (List Str)
  | [] => some []
  | .str i :: r => (allStrs r).map (i :: ·)
  | _ => none
noncomputable def inInt (k : Int) (b : D) : Option Bool := b.listOnly.bind fun l => (allInts l).bind fun ns => if l.length ≤ lim then some (ns.any (· == k)) else none
noncomputable def inBool (k : Bool) (b : D) : Option Bool := b.listOnly.bind fun l => (allBools l).bind fun ns => if l.length ≤ lim then some (ns.any (· == k)) else none
noncomputable def inD (a b : D) : Option Bool :=
  a.str.elim (a.int.elim (a.bool.bind fun k => inBool k b) fun k => inInt k b) fun y => b.str.bind fun x => some (Txt.contains x y)
noncomputable def cmpD (op : CmpOp) (a b : D) : Option Bool :=
  match op with
  | .Eq => eqD a.dat b.dat
  | .NotEq => (eqD a.dat b.dat).map (!·)
  | .Lt => a.int.bind fun x => b.int.bind fun y => some (decide (x < y))
  | .LtE => a.int.bind fun x => b.int.bind fun y => some (decide (x ≤ y))
  | .Gt => a.int.bind fun x => b.int.bind fun y => some (decide (x > y))
  | .GtE => a.int.bind fun x => b.int.bind fun y => some (decide (x ≥ y))
  | .Is => a.bool.bind fun x => b.bool.bind fun y => some (x == y)
  | .IsNot => a.bool.bind fun x => b.bool.bind fun y => some (!(x == y))
  | .In => inD a b
  | .NotIn => (inD a b).map (!·)
@[simp] theorem int_eq {i : Int} : (D.v (.int i)).int = some i := rfl
@[simp] theorem str_eq {i : Str} : (D.v (.str i)).str = some i := rfl
@[simp] theorem str_o {i : Nat} {l : List V} : (D.o i l).str = none := rfl
@[simp] theorem str_t {l : List V} : (D.t l).str = none := rfl
@[simp] theorem str_l {l : List V} : (D.v (.list l)).str = none := rfl
@[simp] theorem str_u {l : List V} : (D.v (.tup l)).str = none := rfl
noncomputable def D.tup : D -> Option (List V)
  | .v (.tup l) => some l
  | _ => none
noncomputable def place (n : Nat) (i : Int) : Option Nat :=
  if 0 ≤ i then if i < n then some i.toNat else none else if -(n : Int) ≤ i then some (i + n).toNat else none
noncomputable def strAt (x : Str) (k : Int) : Option D := if x.length ≤ lim then (place x.length k).bind fun j => (x.cps[j]?).map fun ch => .v (.str ⟨#[ch]⟩) else none
noncomputable def rowAt (l : List V) (k : Int) : Option D := if l.length ≤ lim then (place l.length k).bind fun j => (l[j]?).map .v else none
noncomputable def subD (a i : D) : Option D := i.int.bind fun k => match a.str with
  | some x => strAt x k
  | none => a.items.bind fun l => rowAt l k
noncomputable def clip (n : Nat) (i : Int) : Nat := (max 0 (min (if i < 0 then i + n else i) n)).toNat
noncomputable def cut {α : Type} (l : List α) (lo hi : Option Int) : List α :=
  (l.drop (lo.elim 0 (clip l.length))).take (hi.elim l.length (clip l.length) - lo.elim 0 (clip l.length))
noncomputable def part : D -> Option (Option Int)
  | .v .none => some none
  | .v (.int i) => if -(2 ^ 62) ≤ i /\ i ≤ 2 ^ 62 then some (some i) else none
  | _ => none
noncomputable def slcF (a : D) (lo hi : Option Int) : Option D := match a.str with
  | some x => if x.length ≤ lim then some (.v (.str ⟨(cut x.cps.toList lo hi).toArray⟩)) else none
  | none => a.listOnly.bind fun l => if l.length ≤ lim then some (.t (cut l lo hi)) else none
noncomputable def slcR (a : D) : Option D := match a.str with
  | some x => if x.length ≤ lim then some (.v (.str ⟨x.cps.toList.reverse.toArray⟩)) else none
  | none => a.tup.bind fun l => if l.length ≤ lim then some (.v (.tup l.reverse)) else none
noncomputable def slcD (a lo hi st : D) : Option D := (part lo).bind fun lo => (part hi).bind fun hi => (part st).bind fun st => match st with
  | none => slcF a lo hi
  | some q => if q = -1 /\ lo = none /\ hi = none then slcR a else none
noncomputable def V.asInt : V -> Option Int
  | .int x => Option.some x
  | _ => Option.none
noncomputable def V.asTup : V -> Option (List V)
  | .tup x => Option.some x
  | _ => Option.none
noncomputable def insPair (a b : Int) : List (Int × Int) -> List (Int × Int)
  | [] => [(a,b)]
  | p :: r => if a < p.1 then (a,b) :: p :: r else p :: insPair a b r
noncomputable def sortPairs : List (Int × Int) -> List (Int × Int)
  | [] => []
  | p :: r => insPair p.1 p.2 (sortPairs r)
noncomputable def pairOf (v : V) : Option (Int × Int) := v.asTup.bind fun l => match l with
  | [a,b] => a.asInt.bind fun x => b.asInt.bind fun y => some (x,y)
  | _ => none
noncomputable def allPairs : List V -> Option (List (Int × Int))
  | [] => some []
  | d :: r => (pairOf d).bind fun p => (allPairs r).map (p :: ·)
noncomputable def ofPair (p : Int × Int) : V := .tup [.int p.1,.int p.2]
noncomputable def maxL : List Int -> Int
  | [] => 0
  | [a] => a
  | a :: r => if maxL r > a then maxL r else a
noncomputable def one (f : D -> Option D) : List D -> Option D
  | [a] => f a
  | _ => none
noncomputable def two (f : D -> D -> Option D) : List D -> Option D
  | [a,b] => f a b
  | _ => none
noncomputable def three (f : D -> D -> D -> Option D) : List D -> Option D
  | [a,b,d] => f a b d
  | _ => none
@[simp] theorem one_eq {f : D -> Option D} {a : D} : one f [a] = f a := rfl
@[simp] theorem two_eq {f : D -> D -> Option D} {a b : D} : two f [a,b] = f a b := rfl
@[simp] theorem three_eq {f : D -> D -> D -> Option D} {a b d : D} : three f [a,b,d] = f a b d := rfl
noncomputable def absD : List D -> Option D := one fun a => a.int.bind fun a => some (.v (.int (if a < 0 then -a else a)))
noncomputable def lenD : List D -> Option D := one fun a => (match a.str with | some x => some x.length | none => a.items.map List.length).bind fun n => if n ≤ lim then some (.v (.int n)) else none
noncomputable def sumD : List D -> Option D := one fun a => a.listOnly.bind fun l => (allInts l).bind fun ns => if ns.length ≤ lim then some (.v (.int ns.sum)) else none
noncomputable def maxD (as : List D) : Option D := match as with
  | [a] => a.tup.bind fun l => (allInts l).bind fun ns => if ns ≠ [] /\ ns.length ≤ 64 then some (.v (.int (maxL ns))) else none
  | as => two (fun a b => a.int.bind fun a => b.int.bind fun b => some (.v (.int (if b > a then b else a)))) as
noncomputable def minD : List D -> Option D := two fun a b => a.int.bind fun a => b.int.bind fun b => some (.v (.int (if b < a then b else a)))
noncomputable def hexD : List D -> Option D := one fun a => a.int.bind fun a => if (baseText "0x" 16 a).length ≤ lim then some (.v (.str (baseText "0x" 16 a))) else none
noncomputable def divmodD : List D -> Option D := two fun a b => a.int.bind fun a => b.int.bind fun b => if b ≠ 0 /\ bits b < 9000 then some (.v (.tup [.int (a.fdiv b),.int (a.fmod b)])) else none
noncomputable def sortedD : List D -> Option D := one fun a => a.listOnly.bind fun l => (allPairs l).bind fun ps => if ps.length ≤ 5 /\ (ps.map (·.1)).Nodup then some (.t ((sortPairs ps).map ofPair)) else none
noncomputable def biD (b : Bi) (as : List D) : Option D :=
  match b with
  | .abs => absD as
  | .len => lenD as
  | .sum => sumD as
  | .max => maxD as
  | .min => minD as
  | .hex => hexD as
  | .divmod => divmodD as
  | .sorted => sortedD as
  | .range => none
  | .reversed => none
noncomputable def find4 (x y : Str) (i j : Nat) : Int :=
  match Builtin.Str.occurrences x y i j 1 with | k :: _ => (k : Int) | [] => -1
noncomputable def splitD (a : D) : List D -> Option D := one fun b => a.str.bind fun x => b.str.bind fun y => if y.length ≠ 0 /\ x.length ≤ lim then some (.t ((Txt.split x y).map .str)) else none
noncomputable def joinD (a : D) : List D -> Option D := one fun b => a.str.bind fun x => b.listOnly.bind fun l => (allStrs l).bind fun ys => if ys.length ≤ 1000 /\ x.length ≤ 1000 /\ ys.all (fun y => y.length ≤ 1000) then some (.v (.str (Txt.join x ys))) else none
noncomputable def bitsD (a : D) (as : List D) : Option D := a.int.bind fun i => match as with
  | [] => some (.v (.int (bits i)))
  | _ => none
noncomputable def startsD (a : D) : List D -> Option D := one fun b => a.str.bind fun x => b.str.bind fun y => some (.v (.bool (Txt.startswith x y)))
noncomputable def endsD (a : D) : List D -> Option D := one fun b => a.str.bind fun x => b.str.bind fun y => some (.v (.bool (Txt.endswith x y)))
noncomputable def findD (a : D) : List D -> Option D := three fun b i j => a.str.bind fun x => b.str.bind fun y => i.int.bind fun i => j.int.bind fun j => if 0 ≤ i /\ i ≤ x.length /\ 0 ≤ j /\ j ≤ x.length /\ x.length ≤ lim then some (.v (.int (find4 x y i.toNat j.toNat))) else none
noncomputable def countD (a : D) : List D -> Option D := one fun b => b.int.bind fun k => a.listOnly.bind fun l => (allInts l).bind fun ns => if ns.length ≤ lim then some (.v (.int (ns.count k))) else none
noncomputable def meD (m : Me) (a : D) (as : List D) : Option D :=
  match m with
  | .split => splitD a as
  | .join => joinD a as
  | .bitLength => bitsD a as
  | .startswith => startsD a as
  | .endswith => endsD a as
  | .find => findD a as
  | .count => countD a as
structure Ev where
  F : Nat -> List V -> Option V
  G : Nat -> Option V
  tb : List (Int × Str)
noncomputable def getTb : List (Int × Str) -> Int -> Option Str
  | [],_ => none
  | (k,x) :: r,i => if i = k then some x else getTb r i
noncomputable def bindT (t : Tgt) (d : V) (ρ : Loc) : Option Loc :=
  match t with
  | .n i => if i < ρ.length then some (ρ.set i (some (.v d))) else none
  | .t is => match d with
    | .tup l => go is l ρ
    | .list l => go is l ρ
    | _ => none
where
  go : List Nat -> List V -> Loc -> Option Loc
    | [],[],ρ => some ρ
    | i :: is,d :: ds,ρ => if i < ρ.length then go is ds (ρ.set i (some (.v d))) else none
    | _,_,_ => none
noncomputable def Tgt.ids : Tgt -> List Nat
  | .n i => [i]
  | .t is => is
noncomputable def Gs.ids : Gs -> List Nat
  | .done _ => []
  | .cons t _ _ r => t.ids ++ r.ids
noncomputable def wipe (is : List Nat) (ρ : Loc) : Loc := is.foldl (fun ρ i => ρ.set i none) ρ
noncomputable def catM (f : V -> Option (List V)) : List V -> Option (List V)
  | [] => some []
  | d :: r => (f d).bind fun a => (catM f r).bind fun b => some (a ++ b)
noncomputable def intsV (a : Int) : Nat -> List V
  | 0 => []
  | n + 1 => .int a :: intsV (a + 1) n
noncomputable def fzs : List D -> Option (List V)
  | [] => some []
  | d :: r => d.fz.bind fun v => (fzs r).bind fun vs => some (v :: vs)
mutual
noncomputable def evE (ε : Ev) : X -> Loc -> Option D
  | .no,_ => some (.v .none)
  | .lit v,_ => some (.v v)
  | .var i,ρ => (ρ[i]?).bind id
  | .gl i,_ => (ε.G i).map .v
  | .bin op a b,ρ => (evE ε a ρ).bind fun x => (evE ε b ρ).bind fun y => binD op x y
  | .neg a,ρ => (evE ε a ρ).bind fun x => x.int.bind fun i => some (.v (.int (-i)))
  | .inv a,ρ => (evE ε a ρ).bind fun x => x.int.bind fun i => some (.v (.int (Builtin.bitNot i)))
  | .not a,ρ => none
  | .bop op xs,ρ => evB ε op xs ρ
  | .ite t a b,ρ => (evT ε t ρ).bind fun c => if c then evE ε a ρ else evE ε b ρ
  | .cmp op a b,ρ => (evE ε a ρ).bind fun x => (evE ε b ρ).bind fun y => (cmpD op x y).map fun c => .v (.bool c)
  | .sub a i,ρ => (evE ε a ρ).bind fun x => (evE ε i ρ).bind fun y => subD x y
  | .slc a lo hi st,ρ => (evE ε a ρ).bind fun x => (evE ε lo ρ).bind fun l => (evE ε hi ρ).bind fun h => (evE ε st ρ).bind fun s => slcD x l h s
  | .tup xs,ρ => (evXs ε xs ρ).bind fun ds => (fzs ds).bind fun vs => if vs.length ≤ lim then some (.v (.tup vs)) else none
  | .lst xs,ρ => (evXs ε xs ρ).bind fun ds => (fzs ds).bind fun vs => if vs.length ≤ lim then some (.t vs) else none
  | .comp gs,ρ => (evG ε gs ρ (wipe gs.ids ρ)).bind fun vs => if vs.length ≤ lim then some (.t vs) else none
  | .call f xs,ρ => (evXs ε xs ρ).bind fun ds => (fzs ds).bind fun vs => (ε.F f vs).map .v
  | .bi b xs,ρ => (evXs ε xs ρ).bind fun ds => biD b ds
  | .meth m a xs,ρ => (evE ε a ρ).bind fun x => (evXs ε xs ρ).bind fun ds => meD m x ds
  | .rep a y z,ρ => (evE ε a ρ).bind fun x => x.str.bind fun x => if x.length ≤ 1000 /\ y.length ≤ 1000 /\ z.length ≤ 1000 /\ y ≠ z then some (.v (.str (Txt.replace x y z))) else none
  | .flag k d,ρ => (evE ε k ρ).bind fun x => (evE ε d ρ).bind fun y => x.int.bind fun i => y.str.bind fun z => some (.v (.str ((getTb ε.tb i).getD z)))
noncomputable def evT (ε : Ev) : X -> Loc -> Option Bool
  | .not a,ρ => (evT ε a ρ).map (!·)
  | .bop op xs,ρ => evA ε op xs ρ
  | .ite t a b,ρ => (evT ε t ρ).bind fun c => if c then evT ε a ρ else evT ε b ρ
  | .cmp op a b,ρ => (evE ε a ρ).bind fun x => (evE ε b ρ).bind fun y => cmpD op x y
  | .bin op a b,ρ => (evE ε a ρ).bind fun x => (evE ε b ρ).bind fun y => (binD op x y).bind truth
  | .var i,ρ => ((ρ[i]?).bind id).bind truth
  | .call f xs,ρ => (evXs ε xs ρ).bind fun ds => (fzs ds).bind fun vs => (ε.F f vs).bind fun d => truth (.v d)
  | .sub a i,ρ => (evE ε a ρ).bind fun x => (evE ε i ρ).bind fun y => (subD x y).bind truth
  | .meth m a xs,ρ => (evE ε a ρ).bind fun x => (evXs ε xs ρ).bind fun ds => (meD m x ds).bind truth
  | _,_ => none
noncomputable def evB (ε : Ev) (op : BoolOp) : Xs -> Loc -> Option D
  | .nil,_ => none
  | .cons x r,ρ => (evE ε x ρ).bind fun d => match r with
    | .nil => some d
    | _ => (truth d).bind fun t => if t = (op == .Or) then some d else evB ε op r ρ
noncomputable def evA (ε : Ev) (op : BoolOp) : Xs -> Loc -> Option Bool
  | .nil,_ => some (op == .And)
  | .cons x r,ρ => (evT ε x ρ).bind fun t => if t = (op == .Or) then some t else evA ε op r ρ
noncomputable def evXs (ε : Ev) : Xs -> Loc -> Option (List D)
  | .nil,_ => some []
  | .cons x r,ρ => (evE ε x ρ).bind fun d => (evXs ε r ρ).bind fun ds => some (d :: ds)
noncomputable def evI (ε : Ev) : X -> Loc -> Option (List V)
  | .bi .range (.cons a .nil),ρ => (evE ε a ρ).bind fun x => x.int.bind fun n => if 0 ≤ n /\ n ≤ lim then some (intsV 0 n.toNat) else none
  | .bi .range (.cons a (.cons b .nil)),ρ => (evE ε a ρ).bind fun x => (evE ε b ρ).bind fun y => x.int.bind fun n => y.int.bind fun m => if -(2 ^ 40) ≤ n /\ n ≤ m /\ m ≤ n + lim /\ m ≤ 2 ^ 40 then some (intsV n (m - n).toNat) else none
  | .bi .reversed (.cons a .nil),ρ => (evE ε a ρ).bind fun x => match x with
    | .v (.list l) => if l.length ≤ lim then some l.reverse else none
    | _ => none
  | .var i,ρ => ((ρ[i]?).bind id).bind fun x => x.items.bind fun l => if l.length ≤ lim then some l else none
  | .bin op a b,ρ => (evE ε a ρ).bind fun x => (evE ε b ρ).bind fun y => (binD op x y).bind fun x => x.items.bind fun l => if l.length ≤ lim then some l else none
  | .slc a lo hi st,ρ => (evE ε a ρ).bind fun x => (evE ε lo ρ).bind fun l => (evE ε hi ρ).bind fun h => (evE ε st ρ).bind fun s => (slcD x l h s).bind fun x => x.items.bind fun l => if l.length ≤ lim then some l else none
  | .tup xs,ρ => (evXs ε xs ρ).bind fun ds => (fzs ds).bind fun vs => if vs.length ≤ lim then some vs else none
  | .lst xs,ρ => (evXs ε xs ρ).bind fun ds => (fzs ds).bind fun vs => if vs.length ≤ lim then some vs else none
  | .comp gs,ρ => (evG ε gs ρ (wipe gs.ids ρ)).bind fun vs => if vs.length ≤ lim then some vs else none
  | .call f xs,ρ => (evXs ε xs ρ).bind fun ds => (fzs ds).bind fun vs => (ε.F f vs).bind fun d => (D.v d).items.bind fun l => if l.length ≤ lim then some l else none
  | _,_ => none
noncomputable def evG (ε : Ev) : Gs -> Loc -> Loc -> Option (List V)
  | .done x,ρ,_ => (evE ε x ρ).bind fun d => d.fz.bind fun v => some [v]
  | .cons t it ifs r,ρ,ρ0 => (evI ε it ρ).bind fun l => catM (fun d => (bindT t d ρ0).bind fun ρ' => (evA ε .And ifs ρ').bind fun b => if b then evG ε r ρ' ρ' else some []) l
end
noncomputable def forL (f : V -> Loc -> Option (Fl × Loc)) : List V -> Loc -> Option (Fl × Loc)
  | [],ρ => some (.next,ρ)
  | d :: r,ρ => (f d ρ).bind fun q => match q with
    | (.next,ρ') => forL f r ρ'
    | q => some q
noncomputable def whlL (t : Loc -> Option Bool) (f : Loc -> Option (Fl × Loc)) : Nat -> Loc -> Option (Fl × Loc)
  | 0,_ => none
  | n + 1,ρ => (t ρ).bind fun b => if b then (f ρ).bind fun q => match q with
      | (.next,ρ') => whlL t f n ρ'
      | (.brk,ρ') => some (.next,ρ')
      | q => some q
    else some (.next,ρ)
noncomputable def ownAt (i : Nat) (ρ : Loc) : Option (List V) :=
  match ρ[i]? with
  | some (some (.o j l)) => if j = i then some l else none
  | _ => none
noncomputable def frozenIt (it : X) (ρ : Loc) : Bool :=
  match it with
  | .var i => match ρ[i]? with
    | some (some (.v _)) => true
    | _ => false
  | _ => true
mutual
noncomputable def evS (ε : Ev) : S -> Loc -> Option (Fl × Loc)
  | .asg t x,ρ => (evE ε x ρ).bind fun d => d.fz.bind fun v => (bindT t v ρ).map fun ρ' => (.next,ρ')
  | .own i x,ρ => (evE ε x ρ).bind fun d => match d with
    | .t l => if i < ρ.length then some (.next,ρ.set i (some (.o i l))) else none
    | _ => none
  | .aug i op x,ρ => (ρ[i]?).bind fun a => a.bind fun a => a.int.bind fun a => (evE ε x ρ).bind fun d => d.int.bind fun b => (binInt op a b).map fun c => (.next,ρ.set i (some (.v (.int c))))
  | .ife t a b,ρ => (evT ε t ρ).bind fun c => if c then evSs ε a ρ else evSs ε b ρ
  | .forr t it body els,ρ => if frozenIt it ρ = false then none else (evI ε it ρ).bind fun l => (forL (fun d ρ => (bindT t d ρ).bind fun ρ' => evSs ε body ρ') l ρ).bind fun q => match q with
    | (.next,ρ') => evSs ε els ρ'
    | (.brk,ρ') => some (.next,ρ')
    | q => some q
  | .whl n t body,ρ => whlL (fun ρ => evT ε t ρ) (fun ρ => evSs ε body ρ) n ρ
  | .ret x,ρ => (evE ε x ρ).map fun d => (.ret d.dat,ρ)
  | .brk,ρ => some (.brk,ρ)
  | .app i x,ρ => (evE ε x ρ).bind fun d => d.fz.bind fun v => (ownAt i ρ).bind fun l => if l.length ≤ lim then some (.next,ρ.set i (some (.o i (l ++ [v])))) else none
  | .ins i x y,ρ => (evE ε x ρ).bind fun k => (evE ε y ρ).bind fun d => k.int.bind fun k => d.fz.bind fun v => (ownAt i ρ).bind fun l =>
      if 0 ≤ k /\ k ≤ l.length /\ l.length ≤ lim then some (.next,ρ.set i (some (.o i (l.take k.toNat ++ v :: l.drop k.toNat)))) else none
  | .rvs i,ρ => (ownAt i ρ).bind fun l => if l.length ≤ lim then some (.next,ρ.set i (some (.o i l.reverse))) else none
  | .del i x,ρ => (evE ε x ρ).bind fun k => k.int.bind fun k => (ownAt i ρ).bind fun l => (place l.length k).bind fun j => if l.length ≤ lim then some (.next,ρ.set i (some (.o i (l.eraseIdx j)))) else none
  | .ast x,ρ => (evT ε x ρ).bind fun b => if b then some (.next,ρ) else none
  | .fz i,ρ => (ownAt i ρ).bind fun l => some (.next,ρ.set i (some (.v (.list l))))
  | .stop,_ => none
noncomputable def evSs (ε : Ev) : Ss -> Loc -> Option (Fl × Loc)
  | .nil,ρ => some (.next,ρ)
  | .cons s r,ρ => (evS ε s ρ).bind fun q => match q with
    | (.next,ρ') => evSs ε r ρ'
    | q => some q
end
section
set_option genInjectivity false
set_option genSizeOfSpec false
structure Tb where
  nm : List Str
  fn : List Str
  gn : List Str
  tn : Str
noncomputable def biName : Bi -> Str
  | .abs => "abs" | .len => "len" | .sum => "sum" | .max => "max" | .min => "min" | .hex => "hex" | .divmod => "divmod" | .sorted => "sorted" | .range => "range" | .reversed => "reversed"
noncomputable def meName : Me -> Str
  | .split => "split" | .join => "join" | .bitLength => "bit_length" | .startswith => "startswith" | .endswith => "endswith" | .find => "find" | .count => "count"
noncomputable abbrev Kd := Str -> Option NameKind
noncomputable def relNames (names : List (Str × NameKind)) (K : Kd) : List (Str × NameKind) :=
  names.map fun (n,k) => if (k == .free && K n == some .cell) then (n,.cell) else (n,k)
noncomputable def kinds (names : List (Str × NameKind)) (K : Kd) : Kd := fun x => (relNames names K).lookup x
structure Nm (τ : Tb) : Prop where
  nodup : τ.nm.Nodup
  dot : (".0" : Str) ∉ τ.nm
end
section
set_option genInjectivity false
set_option genSizeOfSpec false
section
variable {α β : Type} {P : Prop}
theorem bindE {o : Option α} {f : α -> Option β} {b : β} (h : o.bind f = some b) (k : ∀ a,o = some a -> f a = some b -> P) : P :=
  match o,h,k with
  | some a,h,k => k a rfl h
theorem noneE {α : Type} {x : α} {P : Prop} (h : none = some x) : P := by cases h
theorem mapE {o : Option α} {f : α -> β} {b : β} (h : o.map f = some b) (k : ∀ a,o = some a -> f a = b -> P) : P :=
  match o,h,k with
  | some a,h,k => k a rfl (Option.some.inj h)
theorem elimE {o : Option α} {n : Option β} {f : α -> Option β} {b : β} (h : o.elim n f = some b) (k1 : ∀ a,o = some a -> f a = some b -> P) (k2 : o = none -> n = some b -> P) : P :=
  match o,h,k1,k2 with
  | some a,h,k1,_ => k1 a rfl h
  | none,h,_,k2 => k2 rfl h
theorem iteE {c : Prop} [d : Decidable c] {a : Option α} {x : α} (h : (if c then a else none) = some x) (k : c -> a = some x -> P) : P :=
  match d,h,k with
  | .isTrue hc,h,k => k hc h
end
theorem D.intE {d : D} {i : Int} (h : d.int = some i) : d = .v (.int i) := by
  cases d with
  | v d => cases d with
    | int j => exact congrArg (fun i => D.v (.int i)) (Option.some.inj h)
    | _ => exact noneE h
  | _ => exact noneE h
theorem D.boolE {d : D} {i : Bool} (h : d.bool = some i) : d = .v (.bool i) := by
  cases d with
  | v d => cases d with
    | bool j => exact congrArg (fun i => D.v (.bool i)) (Option.some.inj h)
    | _ => exact noneE h
  | _ => exact noneE h
theorem D.strE {d : D} {i : Str} (h : d.str = some i) : d = .v (.str i) := by
  cases d with
  | v d => cases d with
    | str j => exact congrArg (fun i => D.v (.str i)) (Option.some.inj h)
    | _ => exact noneE h
  | _ => exact noneE h
theorem D.tlE {d : D} {l : List V} (h : d.tl = some l) : d = .t l := by
  cases d with
  | t m => exact congrArg D.t (Option.some.inj h)
  | _ => exact noneE h
theorem V.strE {d : V} {i : Str} (h : d.asStr = some i) : d = .str i := by
  cases d with
  | str j => exact congrArg V.str (Option.some.inj h)
  | _ => exact noneE h
theorem D.datE : ∀ {d : D} {i : Str},d.dat = .str i -> d = .v (.str i)
  | .v _,_,h => congrArg D.v h
section
variable {Φ : Fz} {v : Value}
theorem Rep.int_inv {i : Int} (h : Rep Φ (.int i) v) : ∃ t,v = .int i t := by cases h; exact ⟨_,rfl⟩
theorem Rep.str_inv {x : Str} (h : Rep Φ (.str x) v) : ∃ t,v = .str x t := by cases h; exact ⟨_,rfl⟩
theorem Rep.bool_inv {b : Bool} (h : Rep Φ (.bool b) v) : v = .bool b := by cases h; rfl
theorem Rep.none_inv (h : Rep Φ .none v) : v = .none := by cases h; rfl
theorem Rep.list_inv {l : List V} (h : Rep Φ (.list l) v) : ∃ a o vs n,v = .ref a /\ Φ a = some o /\ o.cls = .type "list" /\ o.data = .seq vs n /\ Reps Φ l vs.toList := by
  cases h with | list h1 h4 => exact ⟨_,_,_,_,rfl,h1,rfl,rfl,h4⟩
theorem Rep.tup_inv {l : List V} (h : Rep Φ (.tup l) v) : ∃ a o vs n,v = .ref a /\ Φ a = some o /\ o.cls = .type "tuple" /\ o.data = .seq vs n /\ Reps Φ l vs.toList := by
  cases h with | tup h1 h4 => exact ⟨_,_,_,_,rfl,h1,rfl,rfl,h4⟩
theorem Rep.list_pl {l : List V} (h : Rep Φ (.list l) v) : ∃ a vs n,v = .ref a /\ Φ a = some { cls := .type "list",data := .seq vs n } /\ Reps Φ l vs.toList := by
  cases h with | list h1 h4 => exact ⟨_,_,_,rfl,h1,h4⟩
end
section
variable {c : Cx} {O : Ow} {X : Addr -> Prop} {Φ Φ' : Fz} {s s' : Shared} {h0 : Heap} {d : D} {v : Value}
theorem post_int (k : OkS c Φ s) {i : Int} {t tk : Tok} : PostD c O Φ s (.v (.int i)) (.int i t) { s with toks := tk } := ⟨Φ,Wd.tok k,.int i t⟩
theorem post_str (k : OkS c Φ s) {x : Str} {t tk : Tok} : PostD c O Φ s (.v (.str x)) (.str x t) { s with toks := tk } := ⟨Φ,Wd.tok k,.str x t⟩
theorem post_bool (k : OkS c Φ s) {b : Bool} {tk : Tok} : PostD c O Φ s (.v (.bool b)) (.bool b) { s with toks := tk } := ⟨Φ,Wd.tok k,.bool b⟩
theorem post_none (k : OkS c Φ s) {tk : Tok} : PostD c O Φ s (.v .none) .none { s with toks := tk } := ⟨Φ,Wd.tok k,.none⟩
theorem post_list (k : OkS c Φ s) {l : List V} {vs : List Value} {tk : Tok} {n : Nat} (r : Reps Φ l vs) :
    PostD c O Φ s (.t l) (.ref s.heap.objs.size) { s with heap := s.heap.push { cls := .type "list",data := .seq vs.toArray n },toks := tk } :=
  ⟨Φ,Wd.push k,_,vs,rfl,⟨n,Heap.get?_push_size _ rfl⟩,r,k.fresh_F (get_size _),k.fresh_T (get_size _),get_size _⟩
theorem post_tup (k : OkS c Φ s) {l : List V} {vs : List Value} {tk : Tok} {n : Nat} (r : Reps Φ l vs) :
    PostD c O Φ s (.v (.tup l)) (.ref s.heap.objs.size) { s with heap := s.heap.push { cls := .type "tuple",data := .seq vs.toArray n },toks := tk } :=
  ⟨_,Wd.made k rfl,.tup Fz.add_self (r.mono (Fz.le_add (k.fresh_F (get_size _))))⟩
theorem RepD.intE {i : Int} (r : RepD c O h0 Φ s.heap d v) (e : d.int = some i) {P : Value -> Prop} (k : ∀ t,P (.int i t)) : P v :=
  match d,D.intE e,r with
  | _,rfl,r => let ⟨t,q⟩ := Rep.int_inv r; q ▸ k t
theorem RepD.strE {i : Str} (r : RepD c O h0 Φ s.heap d v) (e : d.str = some i) {P : Value -> Prop} (k : ∀ t,P (.str i t)) : P v :=
  match d,D.strE e,r with
  | _,rfl,r => let ⟨t,q⟩ := Rep.str_inv r; q ▸ k t
theorem RepD.boolE {i : Bool} (r : RepD c O h0 Φ s.heap d v) (e : d.bool = some i) {P : Value -> Prop} (k : P (.bool i)) : P v :=
  match d,D.boolE e,r with
  | _,rfl,r => Rep.bool_inv r ▸ k
noncomputable abbrev RowAt (c : Cx) (Φ : Fz) (s : Shared) (v : Value) (l : List V) : Prop := ∃ a vs,v = .ref a /\ s.heap.IsList a vs.toArray /\ Reps Φ l vs /\ a ∉ c.T
theorem list_v (k : OkS c Φ s) {l : List V} (r : Rep Φ (.list l) v) : RowAt c Φ s v l := by
  obtain ⟨a,vs,n,rfl,h1,h4⟩ := Rep.list_pl r
  exact ⟨a,vs.toList,rfl,⟨_,k.inn _ _ h1,rfl,n,rfl⟩,h4,fun q => nomatch h1.symm.trans (k.tn a q)⟩
theorem list_t {l : List V} (r : RepD c O h0 Φ s.heap (.t l) v) : RowAt c Φ s v l :=
  r.elim fun a r => r.elim fun vs r => ⟨a,vs,r.1,r.2.1.isList,r.2.2.1,r.2.2.2.2.1⟩
theorem list_o {i : Nat} {l : List V} (r : RepD c O h0 Φ s.heap (.o i l) v) : RowAt c Φ s v l :=
  r.elim fun a r => r.elim fun vs r => ⟨a,vs,r.1,r.2.1.isList,r.2.2.1,r.2.2.2.2⟩
theorem RepD.list_at (k : OkS c Φ s) (r : RepD c O h0 Φ s.heap d v) {l : List V} (e : d.listOnly = some l) : RowAt c Φ s v l := by
  cases d with
  | v d => cases d with
    | list m => exact Option.some.inj e ▸ list_v k r
    | _ => exact noneE e
  | t m => exact Option.some.inj e ▸ list_t r
  | o i m => exact Option.some.inj e ▸ list_o r
end
section
variable {prog : Program} {w : World} {A : Around} {E : Value -> Shared -> Prop} {s : Shared} {l b : Addr} {vs ws : List Value}
theorem add_isList {Q : Value -> Shared -> Prop} (hl : s.heap.IsList l vs.toArray) (hb : s.heap.IsList b ws.toArray)
    (h : Q (.ref s.heap.objs.size) { s with heap := s.heap.push { cls := .type "list",data := .seq (vs ++ ws).toArray } }) (hsz : vs.length + ws.length ≤ sizeLine) :
    wpAny (model prog w) A (binaryOp .Add (.ref l) (.ref b)) Q E s := by
  obtain ⟨⟨cls,dd,data,sl⟩,ho,hc,n,hd⟩ := id hl
  obtain ⟨⟨cls2,dd2,data2,sl2⟩,ho2,hc2,n2,hd2⟩ := id hb
  simp only at hc hd hc2 hd2
  subst hc hd hc2 hd2
  have e : vs.toArray ++ ws.toArray = (vs ++ ws).toArray := by simp
  refine concat_meets ⟨_,ho,rfl⟩ ⟨_,ho2,rfl⟩ noFill_list_add seq_list_add PySem.F.slot_list_add PySem.F.entry_list_add (PySem.F.args_list_add_2 _ _) (list_addW l b vs.toArray ws.toArray n n2 dd dd2 sl sl2 (by simpa using hsz)) ⟨ho,ho2,?_⟩
  rw [e]
  exact h
theorem mul_isPl {x : Int} {u : Tok} {Q : Value -> Shared -> Prop} (hl : IsPl s.heap l vs) (h0 : 0 ≤ x) (hhi : x ≤ 2 ^ 20) (hsz : vs.length * x.toNat ≤ 2 ^ 20)
    (h : Q (.ref s.heap.objs.size) { s with heap := s.heap.push { cls := .type "list",data := .seq (List.replicate x.toNat vs).flatten.toArray } }) :
    wpAny (model prog w) A (binaryOp .Mult (.ref l) (.int x u)) Q E s := by
  obtain ⟨k,hl⟩ := hl
  have e : List.foldl (fun x1 x2 => x1 ++ x2) #[] (List.replicate (if vs.toArray.isEmpty = true then 0 else x.toNat) vs.toArray) = (List.replicate x.toNat vs).flatten.toArray := by
    have gen : ∀ (n : Nat) (acc : List Value),List.foldl (fun x1 x2 => x1 ++ x2) acc.toArray (List.replicate n vs.toArray) = (acc ++ (List.replicate n vs).flatten).toArray := by
      intro n
      induction n with
      | zero => intro acc; simp
      | succ n ih => intro acc; rw [List.replicate_succ,List.foldl_cons,show acc.toArray ++ vs.toArray = (acc ++ vs).toArray by simp,ih]; simp [List.replicate_succ]
    cases vs with
    | nil => simp
    | cons a r =>
      have := gen x.toNat []
      simpa using this
  have hz : vs.toArray.size * x.toNat ≤ 2 ^ 20 := by simpa using hsz
  have hf : Builtin.List.listFitsIndex x = true := by simp [Builtin.List.listFitsIndex]; lia
  have g1 : ((vs.toArray.size : Int) * (x.toNat : Int)) ≤ 2 ^ 20 := by exact_mod_cast hz
  exact wpAny_binaryOp_repeat_ref (T:="list") (U:="int") (by decide) ⟨_,hl,rfl⟩ (fun s' => typeIs_int s' x u) noFill_list_mul F.fills_int_mul F.slot_int_rmul repeat_list F.slot_int_index.lookup
    (call_meets F.slot_int_rmul (typeIs_int s x u) F.entry_int_rmul (F.args_int_rmul_2 _ _) (int___rmul___int_list x u l vs.toArray k)
      ⟨hl,rfl,⟨_,hl,rfl⟩,call_meets F.slot_list_mul ⟨_,hl,rfl⟩ F.entry_list_mul (F.args_list_mul_2 _ _)
        (AutoListH.list___mul___list_int_3 l vs.toArray k x u (by simp [hf]) (by lia) (by simp [Builtin.List.listTooLong,sizeLine]; lia))
        ⟨hl,by rw [e]; exact h⟩⟩)
end
theorem pylong {a b : Int} (h : bits b < 9000) : Builtin.divisionGoesByPylong a b = false := by
  refine PyProof.noPylong_of_log2 ?_
  unfold bits Builtin.Int.intBits at h
  split at h
  · rename_i h0; rw [show b = 0 by simpa using h0]; decide
  · lia
theorem mulOk {a b : Int} (h : bits a + bits b ≤ 2 ^ 27) : IntMulOk a b := by
  unfold IntMulOk Builtin.Int.intTooBig
  rw [show bitsLine = 2 ^ 27 from rfl]
  unfold bits at h
  simp
  intro _ _
  lia
theorem lim_line {n : Nat} (h : n ≤ lim) : n ≤ sizeLine := Nat.le_trans h (by decide)
section
variable {c : Cx} {O : Ow} {Φ : Fz} {s : Shared} {A : Around} {h1 h2 : Heap}
theorem op_binInt {op : Operator} {a b z : Int} {t u : Tok} (k : OkS c Φ s) (e : binInt op a b = some z) :
    wpAny (model c.prog c.w) A (binaryOp op (.int a t) (.int b u)) (PostD c O Φ s (.v (.int z))) NoE s := by
  cases op with
  | Add => cases e; exact add_int (post_int k)
  | Sub => cases e; exact sub_int (post_int k)
  | Mult => exact iteE e fun h e => by cases e; exact mul_int (post_int k) (mulOk h)
  | FloorDiv => exact iteE e fun h e => by cases e; exact floordiv_int h.1 (post_int k) (.inl (pylong h.2))
  | Mod => exact iteE e fun h e => by cases e; exact mod_int' h (post_int k)
  | Pow => exact iteE e fun h e => by cases e; exact pow_int h.1 h.2 (post_int k)
  | LShift => exact iteE e fun h e => by cases e; exact lshift_int h.1 h.2 (post_int k)
  | RShift => exact iteE e fun h e => by cases e; exact rshift_int h (post_int k)
  | BitOr => cases e; exact or_int (post_int k)
  | BitXor => cases e; exact xor_int (post_int k)
  | BitAnd => cases e; exact and_int (post_int k)
  | MatMult => exact noneE e
  | Div => exact noneE e
theorem mul_ok {x : Str} {n : Int} (h : 0 ≤ n /\ n ≤ lim /\ x.length * n.toNat ≤ lim) : MulOk x n := by
  obtain ⟨m,rfl⟩ := Int.eq_ofNat_of_zero_le h.1
  have h2 : m ≤ 2 ^ 20 := Int.ofNat_le.mp h.2.1
  have h3 : x.length * m ≤ 2 ^ 20 := h.2.2
  refine ⟨?_,fun q _ => ?_,fun _ _ => decide_eq_false (Nat.not_lt.mpr (Nat.le_trans h3 (by decide)))⟩
  · rw [Bool.or_eq_false_iff]
    exact ⟨decide_eq_false (Int.not_lt.mpr (Int.le_trans (by decide) (Int.natCast_nonneg m))),decide_eq_false (Int.not_le.mpr (Int.lt_of_le_of_lt (Int.ofNat_le.mpr h2) (by decide)))⟩
  · have hm : (0 : Int) < m := Int.lt_of_not_ge fun z => q (Int.lt_of_le_of_lt z (by decide))
    refine Int.not_lt.mpr ((Int.le_ediv_iff_mul_le hm).mpr (Int.le_trans (Int.ofNat_le.mpr h3) (by decide)))
noncomputable abbrev WB (c : Cx) (A : Around) (O : Ow) (Φ : Fz) (s : Shared) (op : Operator) (z : D) (x y : Value) : Prop := wpAny (model c.prog c.w) A (binaryOp op x y) (PostD c O Φ s z) NoE s
theorem WB.ite {op : Operator} {p : Prop} [d : Decidable p] {a z : D} {x y : Value} (e : (if p then some a else none) = some z) (k : p -> WB c A O Φ s op a x y) : WB c A O Φ s op z x y :=
  match d,e with
  | .isTrue hc,e => Option.some.inj e ▸ k hc
theorem op_binS {op : Operator} {x : Str} {t : Tok} {b z : D} {y : Value} (k : OkS c Φ s) (rb : RepD c O h2 Φ s.heap b y) (e : binS op x b = some z) : WB c A O Φ s op z (.str x t) y := by
  cases op with
  | Add => exact bindE e fun w e1 e => rb.strE e1 (P:=fun y => WB c A O Φ s .Add z (.str x t) y) fun u => WB.ite e fun h => add_str (fun t' tk => post_str k) (lim_line h)
  | Mult => exact bindE e fun n e1 e => rb.intE e1 (P:=fun y => WB c A O Φ s .Mult z (.str x t) y) fun u => WB.ite e fun h => SB.mul (mul_ok h) fun t' tk => post_str k
  | _ => exact noneE e
theorem add_row {l m : List V} {a b : D} {x y : Value} (k : OkS c Φ s) (ra : RepD c O h1 Φ s.heap a x) (rb : RepD c O h2 Φ s.heap b y) (e1 : a.listOnly = some l) (e2 : b.listOnly = some m) (h : l.length + m.length ≤ lim) : WB c A O Φ s .Add (.t (l ++ m)) x y := by
  obtain ⟨a,vs,rfl,p1,p2,_⟩ := ra.list_at k e1
  obtain ⟨b,ws,rfl,q1,q2,_⟩ := rb.list_at k e2
  exact add_isList p1 q1 (post_list k (p2.append q2)) (by rw [p2.length,q2.length]; exact lim_line h)
theorem mul_row {l : List V} {n : Int} {x : Value} {u : Tok} (k : OkS c Φ s) (r : RepD c O h1 Φ s.heap (.t l) x) (h : 0 ≤ n /\ n ≤ lim /\ l.length * n.toNat ≤ lim) : WB c A O Φ s .Mult (.t (List.replicate n.toNat l).flatten) x (.int n u) := by
  obtain ⟨a,vs,rfl,p1,p2,_⟩ := r
  exact mul_isPl p1 h.1 h.2.1 (p2.length.symm ▸ h.2.2) (post_list k (p2.flatten _))
theorem op_binL {op : Operator} {a b z : D} {x y : Value} (k : OkS c Φ s) (ra : RepD c O h1 Φ s.heap a x) (rb : RepD c O h2 Φ s.heap b y) (e : binL op a b = some z) : WB c A O Φ s op z x y := by
  cases op with
  | Add => exact bindE e fun l e1 e => bindE e fun m e2 e => WB.ite e fun h => add_row k ra rb e1 e2 h
  | Mult => exact bindE e fun l e1 e => bindE e fun n e2 e => rb.intE e2 (P:=fun y => WB c A O Φ s .Mult z x y) fun u => WB.ite e fun h => mul_row k (D.tlE e1 ▸ ra) h
  | _ => exact noneE e
theorem op_bin {op : Operator} {a b z : D} {x y : Value} (k : OkS c Φ s) (ra : RepD c O h1 Φ s.heap a x) (rb : RepD c O h2 Φ s.heap b y) (e : binD op a b = some z) : WB c A O Φ s op z x y :=
  elimE e (fun i e1 e => ra.intE e1 (P:=fun x => WB c A O Φ s op z x y) fun t => bindE e fun j e2 e => rb.intE e2 (P:=fun y => WB c A O Φ s op z (.int i t) y) fun u => mapE e fun w e3 e4 => e4 ▸ op_binInt k e3) fun _ e =>
    elimE e (fun w e1 e => ra.strE e1 (P:=fun x => WB c A O Φ s op z x y) fun t => op_binS k rb e) fun _ e => op_binL k ra rb e
noncomputable abbrev PostT (c : Cx) (Φ : Fz) (s : Shared) (b : Bool) : Bool -> Shared -> Prop := fun z s' => z = b /\ Wd c NoX Φ s Φ s'
noncomputable abbrev WT (c : Cx) (A : Around) (Φ : Fz) (s : Shared) (x : Value) (b : Bool) : Prop := wpAny (model c.prog c.w) A (truthy x) (PostT c Φ s b) NoE s
theorem WT.ite {x : Value} {p : Prop} [d : Decidable p] {a b : Bool} (e : (if p then some a else none) = some b) (k : p -> WT c A Φ s x a) : WT c A Φ s x b :=
  match d,e with
  | .isTrue hc,e => Option.some.inj e ▸ k hc
theorem truth_row {d : D} {x : Value} {b : Bool} {l : List V} (k : OkS c Φ s) (r : RepD c O h1 Φ s.heap d x) (e1 : d.listOnly = some l) (e2 : (if l.length ≤ lim then some (!l.isEmpty) else none) = some b) : WT c A Φ s x b :=
  WT.ite e2 fun h => by
    obtain ⟨a,vs,rfl,p1,p2,_⟩ := r.list_at k e1
    have hl := p2.length
    refine wpAny_truthy_list p1 (Int.lt_of_le_of_lt (Int.ofNat_le.mpr (show vs.length ≤ lim from hl ▸ h)) (by decide)) ⟨?_,Wd.tok k⟩
    cases vs <;> cases l
    · rfl
    · cases hl
    · cases hl
    · rfl
theorem lim63 {n : Nat} (h : n ≤ lim) : (n : Int) < 2 ^ 63 := Int.lt_of_le_of_lt (Int.ofNat_le.mpr h) (by decide)
theorem bne_cast (n : Nat) : ((n : Int) != 0) = (n != 0) := by cases n <;> rfl
theorem op_truth {d : D} {x : Value} {b : Bool} (k : OkS c Φ s) (r : RepD c O h1 Φ s.heap d x) (e : truth d = some b) : WT c A Φ s x b := by
  cases d with
  | v d => cases d with
    | none => exact Rep.none_inv r ▸ Option.some.inj e ▸ truthy_none ⟨rfl,Wd.refl k⟩
    | bool b => exact Rep.bool_inv r ▸ Option.some.inj e ▸ wpAny_truthy_bool ⟨rfl,Wd.refl k⟩
    | int i => exact r.intE rfl (P:=fun x => WT c A Φ s x b) fun t => Option.some.inj e ▸ P.truthy_int ⟨rfl,Wd.refl k⟩
    | str w => exact r.strE rfl (P:=fun x => WT c A Φ s x b) fun t => WT.ite e fun h => P.truthy_str (Int.not_le.mpr (lim63 h)) ⟨bne_cast _,Wd.tok k⟩
    | tup l => cases e
    | list l => exact truth_row k r rfl e
  | t l => exact truth_row k r rfl e
  | o i l => exact truth_row k r rfl e
theorem allInts_are {vs : List Value} : ∀ {l : List V} {ns : List Int},Reps Φ l vs -> allInts l = some ns -> IntsAre vs ns := by
  induction vs with
  | nil => intro l ns r e; cases r; cases e; exact .nil
  | cons v vs ih =>
    intro l ns r e
    cases r with
    | cons h r =>
      rename_i d l
      cases d with
      | int i =>
        obtain ⟨t,rfl⟩ := Rep.int_inv h
        exact mapE e fun ms e1 e2 => e2 ▸ .cons _ _ (ih r e1)
      | _ => exact noneE e
theorem allBools_are {vs : List Value} : ∀ {l : List V} {ns : List Bool},Reps Φ l vs -> allBools l = some ns -> vs = ns.map .bool := by
  induction vs with
  | nil => intro l ns r e; cases r; cases e; rfl
  | cons v vs ih =>
    intro l ns r e
    cases r with
    | cons h r =>
      rename_i d l
      cases d with
      | bool i => exact mapE e fun ms e1 e2 => e2 ▸ congr (congrArg List.cons (Rep.bool_inv h)) (ih r e1)
      | _ => exact noneE e
theorem beq_bool (p q : Bool) : (Value.bool p == Value.bool q) = (p == q) := by cases p <;> cases q <;> rfl
theorem eqGives_bool (a b : Bool) : MeetsSeq.EqGives (.bool a) (.bool b) (a == b) := fun prog w A E s Q h => by
  unfold eqBool
  show wpAny _ _ (if (Value.bool a == Value.bool b) = true then _ else _) Q E s
  by_cases hab : (Value.bool a == Value.bool b) = true
  · rw [if_pos hab]
    have e : a = b := by have := eq_of_beq hab; injection this
    subst e
    exact wpAny_bind (wpAny_rule (wpAny_pure (by simpa using h)))
  · rw [if_neg hab]
    refine wpAny_bind (wpAny_mono (eq_bool (Q:=fun v s' => v = .bool (a == b) /\ Q (a == b) s') ⟨rfl,h⟩) (fun v s' hv => ?_) fun _ _ x => x)
    obtain ⟨rfl,hq⟩ := hv
    exact wpAny_truthy_bool hq
theorem RepD.reads {d : D} {x : Value} (k : OkS c Φ s) (r : RepD c O h1 Φ s.heap d x) : ∃ as,Reads s.heap x d.dat.py as := by
  cases d with
  | v d => exact Rep.reads k.inn r
  | t l =>
    obtain ⟨a,vs,rfl,⟨n,e⟩,h2,_⟩ := r
    obtain ⟨as,q⟩ := Reps.reads k.inn h2
    exact ⟨_,by show Reads _ _ (V.py (.list l)) _; rw [V.py]; exact .list e rfl rfl q⟩
  | o i l =>
    obtain ⟨a,vs,rfl,⟨n,e⟩,h2,_⟩ := r
    obtain ⟨as,q⟩ := Reps.reads k.inn h2
    exact ⟨_,by show Reads _ _ (V.py (.list l)) _; rw [V.py]; exact .list e rfl rfl q⟩
noncomputable def PostB (c : Cx) (Φ : Fz) (s : Shared) (b : Bool) (v : Value) (s' : Shared) : Prop := v = .bool b /\ Wd c NoX Φ s Φ s'
noncomputable abbrev Both (c : Cx) (A : Around) (p q : CmpOp) (x y : Value) (Φ : Fz) (s : Shared) (z : Bool) : Prop :=
  wpAny (model c.prog c.w) A (compareOp p x y) (PostB c Φ s z) NoE s /\ wpAny (model c.prog c.w) A (compareOp q x y) (PostB c Φ s (!z)) NoE s
theorem Both.of {p q : CmpOp} {x y : Value} {a b : Bool} (e : some a = some b) (k : Both c A p q x y Φ s a) : Both c A p q x y Φ s b := Option.some.inj e ▸ k
theorem Both.ite {p q : CmpOp} {x y : Value} {t : Prop} [d : Decidable t] {a b : Bool} (e : (if t then some a else none) = some b) (k : t -> Both c A p q x y Φ s a) : Both c A p q x y Φ s b :=
  match d,e with
  | .isTrue hc,e => Option.some.inj e ▸ k hc
theorem op_eq {a b : D} {z : Bool} {x y : Value} {n : Nat} (k : OkS c Φ s) (R : Room A n) (ra : RepD c O h1 Φ s.heap a x) (rb : RepD c O h2 Φ s.heap b y) (e : eqD a.dat b.dat = some z) : Both c A .Eq .NotEq x y Φ s z :=
  elimE e (fun i e1 e => elimE e (fun j e2 e => ra.strE (congrArg D.str (D.datE (V.strE e1))) (P:=fun x => Both c A .Eq .NotEq x y Φ s z) fun t => rb.strE (congrArg D.str (D.datE (V.strE e2))) (P:=fun y => Both c A .Eq .NotEq (.str i t) y Φ s z) fun u => Both.of e ⟨eq_str ⟨rfl,Wd.refl k⟩,ne_str ⟨rfl,Wd.refl k⟩⟩) fun _ e => by cases e) fun _ e => Both.ite e fun h => by
    obtain ⟨as,p⟩ := ra.reads k
    obtain ⟨bs,q⟩ := rb.reads k
    have hu : A.units + 64 < cLine := by have := R.2.2; lia
    exact ⟨SeqAt.compareEq_shaped p q h.1 h.2 hu ⟨rfl,Wd.refl k⟩,SeqAt.compareNe_shaped p q h.1 h.2 hu ⟨rfl,Wd.refl k⟩⟩
theorem op_in {a b : D} {z : Bool} {x y : Value} (k : OkS c Φ s) (ra : RepD c O h1 Φ s.heap a x) (rb : RepD c O h2 Φ s.heap b y) (e : inD a b = some z) : Both c A .In .NotIn x y Φ s z :=
  elimE e (fun i e1 e => bindE e fun j e2 e => ra.strE e1 (P:=fun x => Both c A .In .NotIn x y Φ s z) fun t => rb.strE e2 (P:=fun y => Both c A .In .NotIn (.str i t) y Φ s z) fun u => Both.of e ⟨SB.contains ⟨rfl,Wd.refl k⟩,SB.notContains ⟨rfl,Wd.refl k⟩⟩) fun _ e =>
  elimE e (fun i e1 e => bindE e fun l e2 e => bindE e fun ns e3 e => ra.intE e1 (P:=fun x => Both c A .In .NotIn x y Φ s z) fun t => Both.ite e fun _ => by
    obtain ⟨p,vs,rfl,p1,p2,_⟩ := rb.list_at k e2
    exact ⟨in_list_ints p1 (allInts_are p2 e3) ⟨rfl,Wd.refl k⟩,notin_list_ints p1 (allInts_are p2 e3) ⟨rfl,Wd.refl k⟩⟩) fun _ e =>
  bindE e fun q e1 e => bindE e fun l e2 e => bindE e fun ns e3 e => ra.boolE e1 (P:=fun x => Both c A .In .NotIn x y Φ s z) (Both.ite e fun _ => by
    obtain ⟨p,vs,rfl,p1,p2,_⟩ := rb.list_at k e2
    have hb := allBools_are p2 e3
    subst hb
    have he : ∀ w,w ∈ (ns.map Value.bool).toArray -> MeetsSeq.EqGives w (.bool q) ((fun u => match u with | Value.bool v => v == q | _ => false) w) := fun w hw => by
      obtain ⟨b,_,rfl⟩ := List.mem_map.mp (List.mem_toArray.mp hw)
      exact eqGives_bool b q
    have hany : (ns.map Value.bool).toArray.any (fun u => match u with | Value.bool v => v == q | _ => false) = ns.any (· == q) := by
      rw [List.any_toArray,List.any_map]; rfl
    exact ⟨SeqInW.in_listW _ he p1 (hany ▸ ⟨rfl,Wd.refl k⟩),SeqInW.notIn_listW _ he p1 (hany ▸ ⟨rfl,Wd.refl k⟩)⟩)
section
variable {op : CmpOp} {a b : D} {z : Bool} {x y : Value}
noncomputable abbrev WC (c : Cx) (A : Around) (Φ : Fz) (s : Shared) (op : CmpOp) (x y : Value) (z : Bool) : Prop := wpAny (model c.prog c.w) A (compareOp op x y) (PostB c Φ s z) NoE s
theorem cmp_ii {f : Int -> Int -> Bool} (ra : RepD c O h1 Φ s.heap a x) (rb : RepD c O h2 Φ s.heap b y) (e : (a.int.bind fun x => b.int.bind fun y => some (f x y)) = some z) (h : ∀ i j t u,WC c A Φ s op (.int i t) (.int j u) (f i j)) : WC c A Φ s op x y z :=
  bindE e fun i e1 e => bindE e fun j e2 e => ra.intE e1 (P:=fun x => WC c A Φ s op x y z) fun t => rb.intE e2 (P:=fun y => WC c A Φ s op (.int i t) y z) fun u => Option.some.inj e ▸ h i j t u
theorem cmp_bb {f : Bool -> Bool -> Bool} (ra : RepD c O h1 Φ s.heap a x) (rb : RepD c O h2 Φ s.heap b y) (e : (a.bool.bind fun x => b.bool.bind fun y => some (f x y)) = some z) (h : ∀ i j,WC c A Φ s op (.bool i) (.bool j) (f i j)) : WC c A Φ s op x y z :=
  bindE e fun i e1 e => bindE e fun j e2 e => ra.boolE e1 (P:=fun x => WC c A Φ s op x y z) (rb.boolE e2 (P:=fun y => WC c A Φ s op (.bool i) y z) (Option.some.inj e ▸ h i j))
end
theorem op_cmp {op : CmpOp} {a b : D} {z : Bool} {x y : Value} {n : Nat} (k : OkS c Φ s) (R : Room A n) (ra : RepD c O h1 Φ s.heap a x) (rb : RepD c O h2 Φ s.heap b y) (e : cmpD op a b = some z) :
    wpAny (model c.prog c.w) A (compareOp op x y) (PostB c Φ s z) NoE s := by
  cases op with
  | Eq => exact (op_eq k R ra rb e).1
  | NotEq => exact mapE e fun w e1 e2 => e2 ▸ (op_eq k R ra rb e1).2
  | Lt => exact cmp_ii ra rb e fun i j t u => lt_int ⟨rfl,Wd.refl k⟩
  | LtE => exact cmp_ii ra rb e fun i j t u => le_int ⟨rfl,Wd.refl k⟩
  | Gt => exact cmp_ii ra rb e fun i j t u => gt_int ⟨rfl,Wd.refl k⟩
  | GtE => exact cmp_ii ra rb e fun i j t u => ge_int ⟨rfl,Wd.refl k⟩
  | Is => exact cmp_bb ra rb e fun i j => wpAny_is_plain rfl ⟨by rw [beq_bool],Wd.refl k⟩
  | IsNot => exact cmp_bb ra rb e fun i j => wpAny_isNot_plain rfl ⟨by rw [beq_bool],Wd.refl k⟩
  | In => exact (op_in k ra rb e).1
  | NotIn => exact mapE e fun w e1 e2 => e2 ▸ (op_in k ra rb e1).2
end
end
section
set_option genInjectivity false
set_option genSizeOfSpec false
theorem place_seq {n : Nat} {i : Int} {j : Nat} (h : place n i = some j) : seqIndex? i n = some j := by
  unfold place at h
  unfold seqIndex?
  split at h
  · split at h <;> cases h
    have e : ¬ i < 0 := by lia
    simp only [e,if_false]
    rw [if_pos (by simp; lia)]
  · split at h <;> cases h
    have e : i < 0 := by lia
    simp only [e,if_true]
    rw [if_pos (by simp; lia)]
section
variable {c : Cx} {O : Ow} {Φ : Fz} {s : Shared} {A : Around} {h1 h2 : Heap}
theorem Reps.item {Φ : Fz} {l : List V} {vs : List Value} (r : Reps Φ l vs) {j : Nat} {d : V} (e : l[j]? = some d) : ∃ v,vs[j]? = some v /\ Rep Φ d v := r.get e
theorem getItem_list_any {prog : Program} {w : World} {E : Value -> Shared -> Prop} {a : Addr} {vs : List Value} {i : Int} {u : Tok} {j : Nat} {x : Value} {Q : Value -> Shared -> Prop} (hl : s.heap.IsList a vs.toArray) (hsz : vs.length ≤ lim)
    (hj : place vs.length i = some j) (hx : vs[j]? = some x) (h : Q x s) : wpAny (model prog w) A (getItem (.ref a) (.int i u)) Q E s := by
  unfold place at hj
  simp only [lim] at hsz
  split at hj
  · split at hj <;> cases hj
    exact wpAny_getItem_list hl (by lia) (by lia) (by simpa using hx) h
  · split at hj <;> cases hj
    refine wpAny_getItem_list_neg hl (by lia) (by simp; lia) (by lia) (by simpa using hx) h
theorem D.tupE : ∀ {d : D} {l : List V},d.tup = some l -> d = .v (.tup l)
  | .v (.tup _),_,h => congrArg (fun i => D.v (.tup i)) (Option.some.inj h)
theorem D.itemsE {d : D} {l : List V} (e : d.items = some l) : d.listOnly = some l ∨ d = .v (.tup l) := by
  cases d with
  | v d => cases d with
    | list m => exact .inl e
    | tup m => exact .inr (congrArg (fun l => D.v (.tup l)) (Option.some.inj e))
    | none => cases e
    | bool => cases e
    | int => cases e
    | str => cases e
  | t l => exact .inl e
  | o i l => exact .inl e
theorem RepD.items_at {d : D} {v : Value} (k : OkS c Φ s) (r : RepD c O h1 Φ s.heap d v) {l : List V} (e : d.items = some l) :
    ∃ a vs,v = .ref a /\ (s.heap.IsList a vs.toArray ∨ s.heap.IsTuple a vs.toArray) /\ Reps Φ l vs /\ a ∉ c.T := by
  rcases D.itemsE e with e | e
  · obtain ⟨a,vs,h1,h2,h3,h4⟩ := r.list_at k e
    exact ⟨a,vs,h1,.inl h2,h3,h4⟩
  · subst e
    obtain ⟨a,o,vs,n,rfl,p1,p2,p3,p4⟩ := Rep.tup_inv r
    exact ⟨a,vs.toList,rfl,.inr ⟨o,k.inn _ _ p1,p2,n,p3⟩,p4,fun q => by rw [k.tn a q] at p1; cases p1⟩
theorem place_fit {n : Nat} {i : Int} {j : Nat} (hn : n ≤ lim) (h : place n i = some j) : -(2 ^ 63) ≤ i /\ i < 2 ^ 63 := by
  have hn : n ≤ 2 ^ 20 := hn
  unfold place at h
  split at h
  · exact iteE h fun h1 _ => by lia
  · exact iteE h fun h1 _ => by lia
section
variable {a i z : D} {x y : Value} {value slice : PySem.Expr} (k : OkS c Φ s)
include k
theorem sub_str {q : Str} {t u : Tok} {p : Int} (e : strAt q p = some z) (hs : subscripted slice false (.str q t) (.int p u) = operate [.str q t,.int p u] (getItem (.str q t) (.int p u))) :
    wpAny (model c.prog c.w) A (subscriptTail value slice (.str q t) (.int p u)) (PostD c O Φ s z) NoE s :=
  iteE e fun hsz e => bindE e fun j e1 e => mapE e fun ch e3 e => e ▸ tail_any (typeIs_str s _ t) PySem.F.slot_str_getitem.lookup (P.getItem_str (c:=ch) (by have := place_fit hsz e1; simp; lia) ((congrArg (fun o : Option Nat => o.bind fun i => q.cps[i]?) (place_seq e1)).trans e3) (post_str k)) hs
theorem sub_row {b : Addr} {l : List V} {vs : List Value} {u : Tok} {p : Int} (e : rowAt l p = some z) (p1 : s.heap.IsList b vs.toArray ∨ s.heap.IsTuple b vs.toArray) (p2 : Reps Φ l vs) (hs : subscripted slice false (.ref b) (.int p u) = operate [.ref b,.int p u] (getItem (.ref b) (.int p u))) :
    wpAny (model c.prog c.w) A (subscriptTail value slice (.ref b) (.int p u)) (PostD c O Φ s z) NoE s :=
  iteE e fun hsz e => bindE e fun j e3 e => mapE e fun d e5 e => e ▸ by
    obtain ⟨v,q1,q2⟩ := p2.get e5
    rcases p1 with p1 | p1
    · exact tail_any p1.typeIs slot_list_getitem.lookup (getItem_list_any p1 (p2.length ▸ hsz) (p2.length ▸ e3) q1 ⟨Φ,Wd.refl k,q2⟩) hs
    · have ht : IsTup s.heap b vs.toArray := p1
      have hr := place_fit hsz e3
      exact tail_any ht.typeIs PyProof.Rows.slot_tuple_getitem.lookup (getItem_tuple ht hr.1 hr.2 (by rw [List.size_toArray,p2.length]; exact place_seq e3) (by simpa using q1) ⟨Φ,Wd.refl k,q2⟩) hs
theorem op_sub (ra : RepD c O h1 Φ s.heap a x) (ri : RepD c O h2 Φ s.heap i y) (e : subD a i = some z)
    (hs : subscripted slice false x y = operate [x,y] (getItem x y)) : wpAny (model c.prog c.w) A (subscriptTail value slice x y) (PostD c O Φ s z) NoE s :=
  bindE e fun p ep e => ri.intE ep (P:=fun y => subscripted slice false x y = operate [x,y] (getItem x y) -> wpAny (model c.prog c.w) A (subscriptTail value slice x y) (PostD c O Φ s z) NoE s) (fun u hs => by
    cases q : a.str with
    | some w =>
      rw [q] at e
      exact ra.strE q (P:=fun x => subscripted slice false x (.int p u) = operate [x,.int p u] (getItem x (.int p u)) -> wpAny (model c.prog c.w) A (subscriptTail value slice x (.int p u)) (PostD c O Φ s z) NoE s) (fun t hs => sub_str k e hs) hs
    | none =>
      rw [q] at e
      refine bindE e fun l el e => ?_
      obtain ⟨b,ws,rfl,p1,p2,_⟩ := ra.items_at k el
      exact sub_row k e p1 p2 hs) hs
end
theorem pick_cut (vs : List Value) (lo hi : Option Int) : slicePick vs.toArray lo hi none = (cut vs lo hi).toArray := by
  rw [slicePick_plain]
  simp only [List.size_toArray]
  rfl
theorem Reps.cut {l : List V} {vs : List Value} (r : Reps Φ l vs) (lo hi : Option Int) : Reps Φ (cut l lo hi) (cut vs lo hi) := by
  unfold Mine.cut
  rw [r.length]
  exact (r.drop _).take _
theorem str_idx (lo hi : Option Int) (n : Nat) : Builtin.Str.strSliceIndices lo hi 1 n = (List.range ((hi.elim n (clip n)) - (lo.elim 0 (clip n)))).map ((lo.elim 0 (clip n)) + ·) := by
  have e : ∀ v : Option Int,∀ d : Nat,(match v with | none => (d : Int) | some i => max 0 (min (if i < 0 then i + (n : Int) else i) (n : Int))) = ((v.elim d (clip n) : Nat) : Int) := by
    intro v d
    cases v with
    | none => rfl
    | some i => simp only [Option.elim,clip]; lia
  have e0 := e lo 0
  have e1 := e hi n
  have := sliceRange_one (lo.elim 0 (clip n)) (hi.elim n (clip n))
  rw [<- this,<- e0,<- e1]
  unfold Builtin.Str.strSliceIndices
  simp only [show ((1 : Int) > 0) = True from by simp,if_true]
  rfl
theorem str_cut (x : Str) (lo hi : Option Int) : (Builtin.Str.strSliceIndices lo hi 1 x.length).filterMap (x.cps[·]?) = cut x.cps.toList lo hi := by
  rw [str_idx,pick_run]
  unfold cut
  rfl
theorem part_rep {d : D} {p : Option Int} {v : Value} (r : RepD c O h1 Φ s.heap d v) (e : part d = some p) : ∃ q : Option (Int × Tok),q.map (·.1) = p /\ v = partValue q /\ IsPart v p := by
  unfold part at e
  split at e
  · cases e; cases Rep.none_inv r; exact ⟨none,rfl,rfl,.none⟩
  · split at e <;> cases e
    obtain ⟨t,rfl⟩ := Rep.int_inv r
    exact ⟨some (_,t),rfl,rfl,.int _ _⟩
  · cases e
theorem adjust_rev (n : Nat) : Builtin.Slice.sliceAdjust none none (-1) (n : Int) = ((n : Int) - 1,-1) := by
  unfold Builtin.Slice.sliceAdjust
  simp
theorem places_rev (n : Nat) : Builtin.Slice.slicePlaces ((n : Int) - 1) (-1) (-1) = n := by
  unfold Builtin.Slice.slicePlaces
  have h1 : ¬ ((-1 : Int) > 0) := by lia
  simp only [h1,if_false,show (- -1 : Int) = 1 by decide,Int.ediv_one]
  split <;> lia
theorem sliceApplied_rev {prog : Program} {w : World} {E : Value -> Shared -> Prop} {sl : Addr} {n : Nat} {u : Tok} {Q : Int × Int × Nat -> Shared -> Prop} (hs : s.heap.IsSliceOf sl .none .none (.int (-1) u)) (h : Q ((n : Int) - 1,-1,n) s) :
    wpAny (model prog w) A (Builtin.Slice.sliceApplied (.ref sl) (pure (n : Int))) Q E s := by
  obtain ⟨os,hos,hcs,hds⟩ := id hs
  unfold Builtin.Slice.sliceApplied Builtin.Slice.sliceFields
  refine wpAny_bind (wpAny_bind (wpAny_field hos hds (x:=.none) rfl (wpAny_bind (wpAny_field hos hds (x:=.none) rfl (wpAny_bind (wpAny_field hos hds (x:=.int (-1) u) rfl (wpAny_pure ?_)))))))
  refine wpAny_bind (slicePart_int ?_)
  show wpAny _ _ (if ((-1 : Int) == 0) = true then _ else _) _ _ s
  rw [if_neg (by decide)]
  refine wpAny_bind (slicePart_none (wpAny_bind (slicePart_none (wpAny_bind (wpAny_pure ?_)))))
  show wpAny _ _ (match Builtin.Slice.sliceAdjust none none (-1) (n : Int) with | (lo,hi) => pure (lo,(-1 : Int),Builtin.Slice.slicePlaces lo hi (-1))) _ _ s
  rw [adjust_rev n]
  show wpAny _ _ (pure ((n : Int) - 1,(-1 : Int),Builtin.Slice.slicePlaces ((n : Int) - 1) (-1) (-1))) _ _ s
  rw [places_rev n]
  exact wpAny_pure h
theorem pick_rev (xs : Array Value) : ((List.range xs.size).filterMap fun (k : Nat) => xs[((xs.size : Int) - 1 + (k : Int) * (-1)).toNat]?).toArray = xs.toList.reverse.toArray := by
  have e : (List.range xs.size).filterMap (fun (k : Nat) => xs[((xs.size : Int) - 1 + (k : Int) * (-1)).toNat]?) = ((List.range xs.size).map fun k => xs.size - 1 - k).filterMap (xs[·]?) := by
    rw [List.filterMap_map]
    congr 1
    funext k
    have : ((xs.size : Int) - 1 + (k : Int) * (-1)).toNat = xs.size - 1 - k := by lia
    rw [this]; rfl
  rw [e,krv_range,List.filterMap_reverse,krv_all]
theorem getItem_tuple_rev {prog : Program} {w : World} {E : Value -> Shared -> Prop} {t sl : Addr} {items : Array Value} {u : Tok} {Q : Value -> Shared -> Prop} (ht : IsTup s.heap t items) (hs : s.heap.IsSliceOf sl .none .none (.int (-1) u))
    (h : Q (.ref s.heap.objs.size) { s with heap := s.heap.push { cls := .type "tuple",data := .seq items.toList.reverse.toArray } })
    (hsz : items.size ≤ sizeLine) : wpAny (model prog w) A (getItem (.ref t) (.ref sl)) Q E s := by
  have hdrop : sizeOk (.seq items.toList.reverse.toArray) := by
    show items.toList.reverse.toArray.size ≤ sizeLine
    rw [List.size_toArray,List.length_reverse,Array.length_toList]
    exact hsz
  obtain ⟨os,hos,hcs,hds⟩ := id hs
  have hTs : s.TypeIs (.ref sl) "slice" := ⟨os,hos,hcs⟩
  unfold getItem
  try with_reducible refine wpAny_holding ?_
  first | refine wpAny_bind (wpAny_pure ?_) | skip
  refine wpAny_bind (wpAny_sequenceKey ht.typeIs (by decide) ?_)
  refine wpAny_bind (wpAny_callSpecial?_slot (name:=Str.ofString "__getitem__") ht.typeIs PyProof.Rows.slot_tuple_getitem
    (wpAny_call_entry PyProof.Rows.slot_tuple_getitem ht.typeIs PyProof.Rows.entry_tuple_getitem ?_ (PyProof.Rows.args_tuple_getitem _ _)))
  show wpAny _ _ (Builtin.Tuple.tupleItemsOf (.ref t) >>= _) _ _ s
  refine wpAny_bind (tupleItemsOf_ ht ?_)
  refine wpAny_bind (wpAny_typeOf hTs ?_)
  rw [if_pos (by decide)]
  refine wpAny_bind (sliceApplied_rev hs ?_)
  have hno : ¬ ((((items.size : Int) - 1) == 0 && (-1 : Int) == 1 && items.size == items.size) = true) := by simp
  show wpAny _ _ (if (((items.size : Int) - 1) == 0 && (-1 : Int) == 1 && items.size == items.size) = true then _ else _) _ _ s
  rw [if_neg hno,pick_rev items]
  first
    | exact wpAny_bind (m:=Builtin.Tuple.tupleExact _) (wpAny_newObj_type (wpAny_pure ⟨_,rfl,wpAny_pure h⟩) hdrop)
    | exact wpAny_bind (m:=Builtin.Tuple.tupleExact _) (wpAny_newObj_type (wpAny_bind (wpAny_pure (wpAny_pure ⟨_,rfl,wpAny_pure h⟩))) hdrop)
    | exact wpAny_bind (wpAny_bind (m:=Builtin.Tuple.tupleExact _) (wpAny_newObj_type (wpAny_pure (wpAny_pure ⟨_,rfl,wpAny_pure h⟩)) hdrop))
    | exact wpAny_bind (wpAny_bind (m:=Builtin.Tuple.tupleExact _) (wpAny_newObj_type (wpAny_pure ⟨_,rfl,wpAny_pure h⟩) hdrop))
theorem cut_length {α : Type} (l : List α) (lo hi : Option Int) : (cut l lo hi).length ≤ l.length := by
  unfold cut; rw [List.length_take,List.length_drop]; lia
theorem cut_whole {α : Type} (l : List α) (lo hi : Option Int) (h : (cut l lo hi).length = l.length) : cut l lo hi = l := by
  refine List.Sublist.eq_of_length ?_ h
  unfold cut
  exact (List.take_sublist _ _).trans (List.drop_sublist _ _)
section
variable {a z : D} {x : Value} {value slice : PySem.Expr} {sl : Addr} {ops : List Value} (k : OkS c Φ s)
include k
theorem slc_str {q : Str} {t : Tok} {ql qu : Option (Int × Tok)} (hsl : s.heap.IsSliceOf sl (partValue ql) (partValue qu) (partValue none)) (hsz : q.length ≤ lim) (hs : subscripted slice false (.str q t) (.ref sl) = operate ops (getItem (.str q t) (.ref sl))) :
    wpAny (model c.prog c.w) A (subscriptTail value slice (.str q t) (.ref sl)) (PostD c O Φ s (.v (.str ⟨(cut q.cps.toList (ql.map (·.1)) (qu.map (·.1))).toArray⟩))) NoE s := by
  refine tail_any (typeIs_str s q t) PySem.F.slot_str_getitem.lookup (wpAny_getItem_str_slice (l:=ql) (u:=qu) (st:=none) hsl rfl ?_) hs
  have hp : slicePicked q ql qu none = Builtin.Str.strSliceIndices (ql.map (·.1)) (qu.map (·.1)) 1 q.length := rfl
  unfold sliceMade
  rw [hp]
  generalize ql.map (·.1) = lo
  generalize qu.map (·.1) = hi
  have h6 : q.cps.toList.length = q.length := Array.length_toList
  split
  · rename_i hw
    have h3 : (Builtin.Str.strSliceIndices lo hi 1 q.length).length = q.length := by simpa using hw
    rw [str_idx,List.length_map,List.length_range] at h3
    have h8 : hi.elim q.length (clip q.length) ≤ q.length := by
      cases hi with
      | none => exact Nat.le_refl _
      | some i => simp only [Option.elim,clip]; lia
    have e9 : (⟨(cut q.cps.toList lo hi).toArray⟩ : Str) = q := by
      rw [cut_whole _ lo hi (by unfold cut; rw [List.length_take,List.length_drop,h6]; lia),Array.toArray_toList]
    exact ⟨Φ,Wd.refl k,by show Rep Φ (V.str _) (.str q t); rw [e9]; exact .str q t⟩
  · rw [str_cut]
    refine ⟨?_,post_str k⟩
    show (List.toArray (cut q.cps.toList lo hi)).size ≤ sizeLine
    rw [List.size_toArray]
    exact lim_line (Nat.le_trans (cut_length _ lo hi) (h6 ▸ hsz))
theorem rev_str {q : Str} {t u : Tok} (hsl : s.heap.IsSliceOf sl .none .none (.int (-1) u)) (hsz : q.length ≤ lim) (hs : subscripted slice false (.str q t) (.ref sl) = operate ops (getItem (.str q t) (.ref sl))) :
    wpAny (model c.prog c.w) A (subscriptTail value slice (.str q t) (.ref sl)) (PostD c O Φ s (.v (.str ⟨q.cps.toList.reverse.toArray⟩))) NoE s := by
  refine tail_any (typeIs_str s q t) PySem.F.slot_str_getitem.lookup (wpAny_getItem_str_slice (l:=none) (u:=none) (st:=some (-1,u)) hsl rfl ?_) hs
  unfold sliceMade
  rw [if_neg (by simp),show (slicePicked q none none (some (-1,u))).filterMap (q.cps[·]?) = q.cps.toList.reverse by
    unfold slicePicked
    show (Builtin.Str.strSliceIndices none none (-1) q.length).filterMap (q.cps[·]?) = _
    rw [picked_rev,show q.length = q.cps.size from rfl,krv_range,List.filterMap_reverse,krv_all]]
  refine ⟨?_,post_str k⟩
  show q.cps.toList.reverse.toArray.size ≤ sizeLine
  rw [List.size_toArray,List.length_reverse,Array.length_toList]
  exact lim_line hsz
theorem op_slcF {lo hi : Option Int} {ql qu : Option (Int × Tok)} (el : ql.map (·.1) = lo) (eu : qu.map (·.1) = hi) (il : IsPart (partValue ql) lo) (iu : IsPart (partValue qu) hi) (hsl : s.heap.IsSliceOf sl (partValue ql) (partValue qu) (partValue none)) (ra : RepD c O h1 Φ s.heap a x) (e : slcF a lo hi = some z)
    (hs : subscripted slice false x (.ref sl) = operate ops (getItem x (.ref sl))) : wpAny (model c.prog c.w) A (subscriptTail value slice x (.ref sl)) (PostD c O Φ s z) NoE s := by
  unfold slcF at e
  cases q : a.str with
  | some w =>
    rw [q] at e
    subst el eu
    exact iteE e fun hsz e => Option.some.inj e ▸ ra.strE q (P:=fun x => subscripted slice false x (.ref sl) = operate ops (getItem x (.ref sl)) -> wpAny (model c.prog c.w) A (subscriptTail value slice x (.ref sl)) (PostD c O Φ s _) NoE s) (fun t hs => slc_str k hsl hsz hs) hs
  | none =>
    rw [q] at e
    refine bindE e fun l e1 e => iteE e fun hsz e => Option.some.inj e ▸ ?_
    obtain ⟨p,ws,rfl,p1,p2,_⟩ := ra.list_at k e1
    refine tail_any p1.typeIs slot_list_getitem.lookup (wpAny_getItem_list_slice p1 hsl il iu (.none) (by simp) ?_ (by simp only [List.size_toArray]; rw [p2.length]; exact lim_line hsz)) hs
    rw [pick_cut]
    exact post_list k (p2.cut lo hi)
theorem op_slcR {u : Tok} (hsl : s.heap.IsSliceOf sl .none .none (.int (-1) u)) (ra : RepD c O h1 Φ s.heap a x) (e : slcR a = some z)
    (hs : subscripted slice false x (.ref sl) = operate ops (getItem x (.ref sl))) : wpAny (model c.prog c.w) A (subscriptTail value slice x (.ref sl)) (PostD c O Φ s z) NoE s := by
  unfold slcR at e
  cases q : a.str with
  | some w =>
    rw [q] at e
    exact iteE e fun hsz e => Option.some.inj e ▸ ra.strE q (P:=fun x => subscripted slice false x (.ref sl) = operate ops (getItem x (.ref sl)) -> wpAny (model c.prog c.w) A (subscriptTail value slice x (.ref sl)) (PostD c O Φ s _) NoE s) (fun t hs => rev_str k hsl hsz hs) hs
  | none =>
    rw [q] at e
    refine bindE e fun l e1 e => iteE e fun hsz e => Option.some.inj e ▸ ?_
    cases D.tupE e1
    obtain ⟨p,o,ws,n,rfl,p1,p2,p3,p4⟩ := Rep.tup_inv ra
    have ht : IsTup s.heap p ws := ⟨o,k.inn _ _ p1,p2,n,p3⟩
    exact tail_any ht.typeIs PyProof.Rows.slot_tuple_getitem.lookup (getItem_tuple_rev ht hsl (post_tup k p4.reverse) (by rw [<- Array.length_toList,p4.length]; exact lim_line hsz)) hs
end
theorem op_slc {a lo hi st z : D} {x vl vu vs : Value} {value slice : PySem.Expr} (k : OkS c Φ s) (ra : RepD c O h1 Φ s.heap a x) (rl : RepD c O h2 Φ s.heap lo vl) (ru : RepD c O h2 Φ s.heap hi vu) (rs : RepD c O h2 Φ s.heap st vs)
    (e : slcD a lo hi st = some z) (hs : ∃ ops,subscripted slice false x (.ref s.heap.objs.size) = operate ops (getItem x (.ref s.heap.objs.size))) :
    wpAny (model c.prog c.w) A (subscriptTail value slice x (.ref s.heap.objs.size)) (PostD c O Φ s z) NoE { s with heap := s.heap.push { cls := .type "slice",data := .fields #[vl,vu,vs] } } :=
  let ⟨ops,hs⟩ := hs
  have w1 : Wd c NoX Φ s Φ { s with heap := s.heap.push { cls := .type "slice",data := .fields #[vl,vu,vs] } } := Wd.push k
  have hsl : (s.heap.push { cls := .type "slice",data := .fields #[vl,vu,vs] }).IsSliceOf s.heap.objs.size vl vu vs := Heap.IsSliceOf.new ..
  bindE e fun lo' el e => bindE e fun hi' eh e => bindE e fun st' es e => wpAny_mono (Q:=PostD c O Φ { s with heap := s.heap.push { cls := .type "slice",data := .fields #[vl,vu,vs] } } z) (by
    obtain ⟨ql,ql1,rfl,ql3⟩ := part_rep rl el
    obtain ⟨qu,qu1,rfl,qu3⟩ := part_rep ru eh
    obtain ⟨qs,rfl,rfl,qs3⟩ := part_rep rs es
    cases qs with
    | none => exact op_slcF w1.ok ql1 qu1 ql3 qu3 hsl (ra.step w1) e hs
    | some q =>
      obtain ⟨q,u⟩ := q
      refine iteE e fun h e' => ?_
      obtain ⟨rfl,h1,h2⟩ := h
      cases ql with
      | some _ => rw [<- ql1] at h1; cases h1
      | none => cases qu with
        | some _ => rw [<- qu1] at h2; cases h2
        | none => exact op_slcR w1.ok hsl (ra.step w1) e' hs) (fun v s2 ⟨Φ',w2,r⟩ => ⟨Φ',w1.then w2,r.base w1.up⟩) fun _ _ q => q
end
end
section
section
variable {prog : Program} {w : World} {A : Around} {E : Value -> Shared -> Prop} {s : Shared}
theorem sort_exact {a : Addr} {vs out : List Value} {n : Nat} {P : PySem.Fin -> Shared -> Prop} (ho : s.heap.get? a = some (seqObj "list" vs.toArray n)) (h2 : 2 ≤ vs.length) (h64 : vs.length < 64)
    (hask : ∀ h',(∀ b o,b ≠ a -> s.heap.get? b = some o -> h'.get? b = some o) -> ∀ G : Array Nat -> Shared -> Prop,(∀ p : Array Nat,(p.toList.map fun i => vs.getD i Value.none) = out -> G p { s with heap := h' }) ->
      wpAny (model prog w) A (keyKind' vs.toArray) (fun κ s' => (kas_sort vs.length).kasWp (kas_ask prog w A κ vs) G s') (fun _ _ => False) { s with heap := h' })
    (h : ∀ h' c,(∀ b o,b ≠ a -> s.heap.get? b = some o -> h'.get? b = some o) -> h'.get? a = some (seqObj "list" out.toArray c) -> P (.done (.ret .none)) { s with heap := h' }) :
    wpAny (model prog w) A (Builtin.«list.sort» ⟨[.ref a],[]⟩) P E s := by
  have s1 := Heap.SameBut.update s.heap a (Obj.mapSeq fun _ => (#[] : Array Value))
  obtain ⟨e1,ho1⟩ : ∃ e1,(s.heap.update a (Obj.mapSeq fun _ => (#[] : Array Value))).get? a = some (seqObj "list" #[] e1) := ⟨_,get?_update_seq ho fun _ => #[]⟩
  generalize hH : ((s.heap.update a (Obj.mapSeq fun _ => (#[] : Array Value))).push (seqObj "tuple" vs.toArray 0)).push (seqObj "list" #[] 0) = H
  have hHa : H.get? a = some (seqObj "list" #[] e1) := by rw [<- hH]; exact Heap.get?_push_of_some _ (Heap.get?_push_of_some _ ho1)
  have keep : ∀ b o,b ≠ a -> s.heap.get? b = some o -> H.get? b = some o := fun b o hb e => by
    rw [<- hH]; exact Heap.get?_push_of_some _ (Heap.get?_push_of_some _ (s1.extBut b o hb e))
  rw [list_sort_plain]
  refine wpAny_bind (listItems_at ho rfl ?_)
  refine wpAny_bind (listUpdate_at ho rfl ?_ (by rw [List.size_toArray,sizeLine_eq]; lia) (Nat.zero_le _))
  refine wpAny_bind (seqEpoch_at ho1 rfl ?_)
  refine wpAny_bind (wpAny_newTuple ?_ (by show vs.length ≤ _; rw [sizeLine_eq]; lia))
  refine wpAny_bind (wpAny_newList ?_ (Nat.zero_le _))
  refine wpAny_holding ?_
  show wpAny (model prog w) A _ P E { s with heap := ((s.heap.update a (Obj.mapSeq fun _ => (#[] : Array Value))).push (seqObj "tuple" vs.toArray 0)).push (seqObj "list" #[] 0) }
  rw [hH]
  dsimp only
  have hn2 : ¬ vs.toArray.size < 2 := by rw [List.size_toArray]; lia
  rw [if_neg hn2,if_neg hn2]
  refine wpAny_bind (wpAny_mono (hask H keep (fun p s' => (p.toList.map fun i => vs.getD i Value.none) = out /\ s' = { s with heap := H }) fun p hp => ⟨hp,rfl⟩) (fun κ s0 hk => ?_) fun _ _ x => x.elim)
  refine wpAny_bind (wpAny_mono (kat_run (Q:=fun st' s' => ∃ p : Array Nat,p.size = vs.length /\ arrOf st' = p.map (kas_item (vs.toArray.zip vs.toArray)) /\ failedOf st' = none /\ (p.toList.map fun i => vs.getD i Value.none) = out /\ s' = { s with heap := H })
    rfl h2 h64 (fun p' st' s' a1 a2 a3 a4 => ⟨p',a1,a2,a3,a4⟩) hk) ?_ fun _ _ e => e)
  rintro ⟨⟨⟩,st'⟩ s' ⟨p,hp,har,hf,hout,rfl⟩
  dsimp only
  have hsn := kat_snds rfl har
  have hsz : (List.toArray (p.toList.map fun i => vs.getD i Value.none)).size = vs.length := by rw [List.size_toArray,List.length_map,Array.length_toList,hp]
  rw [hout] at hsn hsz
  rw [hsn]
  have s2 := Heap.SameBut.update H a (Obj.mapSeq fun _ => List.toArray out)
  obtain ⟨c2,hc2⟩ : ∃ c2,(H.update a (Obj.mapSeq fun _ => List.toArray out)).get? a = some (seqObj "list" (List.toArray out) c2) := ⟨_,get?_update_seq hHa fun _ => List.toArray out⟩
  refine wpAny_bind (seqEpoch_at hHa rfl ?_)
  refine wpAny_bind (listUpdate_at hHa rfl ?_ (Nat.zero_le _) (Nat.le_trans (Nat.le_of_eq hsz) (by rw [sizeLine_eq]; lia)))
  rw [hf]
  simp only [bne_self_eq_false,Bool.false_eq_true,if_false]
  exact wpAny_pure (h _ c2 (fun b o hb e => s2.extBut b o hb (keep b o hb e)) hc2)
theorem sort_short {a : Addr} {vs : List Value} {n : Nat} {P : PySem.Fin -> Shared -> Prop} (ho : s.heap.get? a = some (seqObj "list" vs.toArray n)) (h2 : vs.length < 2)
    (h : ∀ h' c,(∀ b o,b ≠ a -> s.heap.get? b = some o -> h'.get? b = some o) -> h'.get? a = some (seqObj "list" vs.toArray c) -> P (.done (.ret .none)) { s with heap := h' }) :
    wpAny (model prog w) A (Builtin.«list.sort» ⟨[.ref a],[]⟩) P E s := by
  have s1 := Heap.SameBut.update s.heap a (Obj.mapSeq fun _ => (#[] : Array Value))
  obtain ⟨e1,ho1⟩ : ∃ e1,(s.heap.update a (Obj.mapSeq fun _ => (#[] : Array Value))).get? a = some (seqObj "list" #[] e1) := ⟨_,get?_update_seq ho fun _ => #[]⟩
  generalize hH : ((s.heap.update a (Obj.mapSeq fun _ => (#[] : Array Value))).push (seqObj "tuple" vs.toArray 0)).push (seqObj "list" #[] 0) = H
  have hHa : H.get? a = some (seqObj "list" #[] e1) := by rw [<- hH]; exact Heap.get?_push_of_some _ (Heap.get?_push_of_some _ ho1)
  have keep : ∀ b o,b ≠ a -> s.heap.get? b = some o -> H.get? b = some o := fun b o hb e => by
    rw [<- hH]; exact Heap.get?_push_of_some _ (Heap.get?_push_of_some _ (s1.extBut b o hb e))
  rw [list_sort_plain]
  refine wpAny_bind (listItems_at ho rfl ?_)
  refine wpAny_bind (listUpdate_at ho rfl ?_ (by rw [List.size_toArray,sizeLine_eq]; lia) (Nat.zero_le _))
  refine wpAny_bind (seqEpoch_at ho1 rfl ?_)
  refine wpAny_bind (wpAny_newTuple ?_ (by show vs.length ≤ _; rw [sizeLine_eq]; lia))
  refine wpAny_bind (wpAny_newList ?_ (Nat.zero_le _))
  refine wpAny_holding ?_
  show wpAny (model prog w) A _ P E { s with heap := ((s.heap.update a (Obj.mapSeq fun _ => (#[] : Array Value))).push (seqObj "tuple" vs.toArray 0)).push (seqObj "list" #[] 0) }
  rw [hH]
  dsimp only
  have hn2 : vs.toArray.size < 2 := by rw [List.size_toArray]; exact h2
  rw [if_pos hn2,if_pos hn2]
  refine wpAny_bind (wpAny_pure (wpAny_bind (wpAny_pure ?_)))
  have s2 := Heap.SameBut.update H a (Obj.mapSeq fun _ => vs.toArray)
  obtain ⟨c2,hc2⟩ : ∃ c2,(H.update a (Obj.mapSeq fun _ => vs.toArray)).get? a = some (seqObj "list" vs.toArray c2) := ⟨_,get?_update_seq hHa fun _ => vs.toArray⟩
  have hsn : Array.map (fun x => x.2) (arrOf (SortSt.mk' general' (vs.toArray.zip vs.toArray) #[] 7 none)) = vs.toArray := by
    show Array.map _ (vs.toArray.zip vs.toArray) = _
    rw [Array.map_snd_zip (Nat.le_refl _)]
  refine wpAny_bind (seqEpoch_at hHa rfl ?_)
  rw [hsn]
  refine wpAny_bind (listUpdate_at hHa rfl ?_ (Nat.zero_le _) (by rw [List.size_toArray,sizeLine_eq]; lia))
  rw [show failedOf (SortSt.mk' general' (vs.toArray.zip vs.toArray) #[] 7 none) = none from rfl]
  simp only [bne_self_eq_false,Bool.false_eq_true,if_false]
  exact wpAny_pure (h _ c2 (fun b o hb e => s2.extBut b o hb (keep b o hb e)) hc2)
theorem sorted_shell {l : Addr} {vs out : List Value} {Q : Value -> Shared -> Prop} (hl : s.heap.IsList l vs.toArray) (h64 : vs.length < 64)
    (hs : ∀ (H : Heap) (a : Addr),(∀ b o,s.heap.get? b = some o -> H.get? b = some o /\ b ≠ a) -> H.get? a = some (seqObj "list" vs.toArray 0) -> ∀ (P : PySem.Fin -> Shared -> Prop) (E' : Value -> Shared -> Prop),(∀ h' c,(∀ b o,b ≠ a -> H.get? b = some o -> h'.get? b = some o) -> h'.get? a = some (seqObj "list" out.toArray c) -> P (.done (.ret .none)) { s with heap := h' }) ->
      wpAny (model prog w) A.in1.in1 (Builtin.«list.sort» ⟨[.ref a],[]⟩) P E' { s with heap := H })
    (h : ∀ D h' c,(∀ b o,s.heap.get? b = some o -> h'.get? b = some o) -> s.heap.get? D = none -> h'.get? D = some (seqObj "list" out.toArray c) -> Q (.ref D) { s with heap := h' }) :
    wpAny (model prog w) A (call (.builtin "sorted") [.ref l]) Q E s := by
  refine Calls.call_function_entry kind_sorted plain_sorted entry_sorted (args_sorted1 _) ?_
  unfold Builtin.«sorted»
  refine wpAny_bind (m:=checkCount "sorted" 1 1 _) (wpAny_pure ?_)
  refine wpAny_bind (collect_list hl ?_ (by rw [sizeLine_eq]; lia))
  refine wpAny_bind (wpAny_newList ?_ (by rw [sizeLine_eq]; lia))
  have hsz : ((s.heap.push (seqObj "list" #[] 0)).update s.heap.objs.size (Obj.mapSeq (· ++ vs.toArray))).objs.size = s.heap.objs.size + 1 := by
    rw [Heap.size_update,size_push']
  obtain ⟨H,hH⟩ : ∃ H,((s.heap.push (seqObj "list" #[] 0)).update s.heap.objs.size (Obj.mapSeq (· ++ vs.toArray))).push (seqObj "list" vs.toArray 0) = H := ⟨_,rfl⟩
  have hoL : H.get? (s.heap.objs.size + 1) = some (seqObj "list" vs.toArray 0) := by
    rw [<- hH,<- hsz]; exact Heap.get?_push_size _ rfl
  have keep : ∀ b o,s.heap.get? b = some o -> H.get? b = some o := fun b o q => by
    have hlt : b < s.heap.objs.size := Heap.lt_size q
    rw [<- hH,Heap.get?_push_ne _ _ _ (by rw [hsz]; exact Nat.ne_of_lt (Nat.lt_succ_of_lt hlt)),Heap.get?_update_ne _ _ _ _ (Nat.ne_of_lt hlt),Heap.get?_push_ne _ _ _ (Nat.ne_of_lt hlt)]
    exact q
  show wpAny _ _ _ _ _ { s with heap := ((s.heap.push (seqObj "list" #[] 0)).update s.heap.objs.size (Obj.mapSeq (· ++ vs.toArray))).push (seqObj "list" vs.toArray 0) }
  rw [hsz,hH]
  have old : ∀ b o,s.heap.get? b = some o -> b ≠ s.heap.objs.size + 1 := fun b o q => Nat.ne_of_lt (Nat.lt_succ_of_lt (Heap.lt_size q))
  refine wpAny_bind (wpAny_holding (wpAny_call_entry slot_list_sort ⟨_,hoL,rfl⟩ entry_list_sort ?body (args_list_sort _)))
  case body =>
    exact hs H _ (fun b o e => ⟨keep b o e,old b o e⟩) hoL _ _ fun h' c hk hD => ⟨_,rfl,wpAny_pure ⟨_,rfl,h _ h' c (fun b o e => hk b o (old b o e) (keep b o e)) (Heap.get?_none_of_le (Nat.le_succ _)) hD⟩⟩
theorem sorted_exact {l : Addr} {vs out : List Value} {Q : Value -> Shared -> Prop} (hl : s.heap.IsList l vs.toArray) (h2 : 2 ≤ vs.length) (h64 : vs.length < 64)
    (hask : ∀ h',(∀ b o,s.heap.get? b = some o -> h'.get? b = some o) -> ∀ G : Array Nat -> Shared -> Prop,(∀ p : Array Nat,(p.toList.map fun i => vs.getD i Value.none) = out -> G p { s with heap := h' }) ->
      wpAny (model prog w) A.in1.in1 (keyKind' vs.toArray) (fun κ s' => (kas_sort vs.length).kasWp (kas_ask prog w A.in1.in1 κ vs) G s') (fun _ _ => False) { s with heap := h' })
    (h : ∀ D h' c,(∀ b o,s.heap.get? b = some o -> h'.get? b = some o) -> s.heap.get? D = none -> h'.get? D = some (seqObj "list" out.toArray c) -> Q (.ref D) { s with heap := h' }) :
    wpAny (model prog w) A (call (.builtin "sorted") [.ref l]) Q E s :=
  sorted_shell hl h64 (fun H a hk hoL P E' k => sort_exact (s:={ s with heap := H }) hoL h2 h64 (out:=out) (fun h' hk' G hG => hask h' (fun b o e => hk' b o (hk b o e).2 (hk b o e).1) G hG) k) h
theorem sorted_short {l : Addr} {vs : List Value} {Q : Value -> Shared -> Prop} (hl : s.heap.IsList l vs.toArray) (h2 : vs.length < 2)
    (h : ∀ D h' c,(∀ b o,s.heap.get? b = some o -> h'.get? b = some o) -> s.heap.get? D = none -> h'.get? D = some (seqObj "list" vs.toArray c) -> Q (.ref D) { s with heap := h' }) :
    wpAny (model prog w) A (call (.builtin "sorted") [.ref l]) Q E s :=
  sorted_shell hl (Nat.lt_trans h2 (by decide)) (fun H a hk hoL P E' k => sort_short (s:={ s with heap := H }) hoL h2 k) h
end
noncomputable def evT' {α : Type} (c : Nat -> Nat -> Bool) : KasT α -> α
  | .ret a => a
  | .ask i j k => evT' c (k (c i j))
noncomputable def okT {α : Type} (n : Nat) (c : Nat -> Nat -> Bool) : KasT α -> Bool
  | .ret _ => true
  | .ask i j k => decide (i < n) && decide (j < n) && okT n c (k (c i j))
theorem wp_ev {α : Type} {cmp : Nat -> Nat -> (Bool -> Shared -> Prop) -> Shared -> Prop} {n : Nat} {c : Nat -> Nat -> Bool} {s : Shared} (hc : ∀ i j,i < n -> j < n -> ∀ C : Bool -> Shared -> Prop,C (c i j) s -> cmp i j C s) {Q : α -> Shared -> Prop} :
    ∀ t : KasT α,okT n c t = true -> Q (evT' c t) s -> t.kasWp cmp Q s
  | .ret a,_,h => h
  | .ask i j k,ho,h => by
    rw [okT,Bool.and_eq_true,Bool.and_eq_true,decide_eq_true_eq,decide_eq_true_eq] at ho
    exact hc i j ho.1.1 ho.1.2 _ (wp_ev hc (k (c i j)) ho.2 h)
theorem ev_congr {α : Type} {n : Nat} {c d : Nat -> Nat -> Bool} (h : ∀ i j,i < n -> j < n -> c i j = d i j) : ∀ t : KasT α,okT n d t = true -> okT n c t = true /\ evT' c t = evT' d t
  | .ret a,_ => ⟨rfl,rfl⟩
  | .ask i j k,ho => by
    rw [okT,Bool.and_eq_true,Bool.and_eq_true,decide_eq_true_eq,decide_eq_true_eq] at ho
    have e := h i j ho.1.1 ho.1.2
    have ih := ev_congr h (k (d i j)) ho.2
    rw [okT,evT',evT',e]
    exact ⟨by simp [ho.1.1,ho.1.2,ih.1],ih.2⟩
noncomputable def vecs : Nat -> Nat -> List (List Nat)
  | 0,_ => [[]]
  | n + 1,m => (vecs n m).flatMap fun l => (List.range m).map fun x => x :: l
theorem mem_vecs {m : Nat} : ∀ {l : List Nat},(∀ x ∈ l,x < m) -> l ∈ vecs l.length m
  | [],_ => by simp [vecs]
  | x :: l,h => by
    rw [List.length_cons,vecs,List.mem_flatMap]
    exact ⟨l,mem_vecs fun y hy => h y (List.mem_cons_of_mem _ hy),List.mem_map.mpr ⟨x,List.mem_range.mpr (h x List.mem_cons_self),rfl⟩⟩
noncomputable def cmpOf (r : List Nat) (i j : Nat) : Bool := decide (r.getD i 0 < r.getD j 0)
noncomputable def sortsOk (n : Nat) (r : List Nat) : Bool := !decide r.Nodup || (okT n (cmpOf r) (kas_sort n) && ((evT' (cmpOf r) (kas_sort n)).toList.map (fun i => r.getD i 0) == List.range n) && (evT' (cmpOf r) (kas_sort n)).toList.all (· < n))
theorem sorts2 : (vecs 2 2).all (sortsOk 2) = true := by decide +kernel
theorem sorts3 : (vecs 3 3).all (sortsOk 3) = true := by decide +kernel
theorem sorts4 : (vecs 4 4).all (sortsOk 4) = true := by decide +kernel
theorem sorts5 : (vecs 5 5).all (sortsOk 5) = true := by decide +kernel
end
theorem countP_le' {α : Type} {p q : α -> Bool} : ∀ {l : List α},(∀ x ∈ l,p x = true -> q x = true) -> l.countP p ≤ l.countP q
  | [],_ => Nat.le_refl _
  | x :: l,h => by
    have ih := countP_le' (p:=p) (q:=q) fun y hy => h y (List.mem_cons_of_mem _ hy)
    rw [List.countP_cons,List.countP_cons]
    have hx := h x List.mem_cons_self
    by_cases hp : p x = true
    · rw [if_pos hp,if_pos (hx hp)]; lia
    · rw [if_neg hp]; lia
theorem countP_lt' {α : Type} {p q : α -> Bool} : ∀ {l : List α},(∀ x ∈ l,p x = true -> q x = true) -> (∃ x ∈ l,q x = true /\ p x = false) -> l.countP p < l.countP q
  | [],_,h => by obtain ⟨x,hx,_⟩ := h; cases hx
  | x :: l,h,⟨z,hz,h1,h2⟩ => by
    rw [List.countP_cons,List.countP_cons]
    have hx := h x List.mem_cons_self
    rcases List.mem_cons.mp hz with rfl | hz
    · have ih := countP_le' (p:=p) (q:=q) fun y hy => h y (List.mem_cons_of_mem _ hy)
      rw [if_pos h1,if_neg (by simp [h2])]; lia
    · have ih := countP_lt' (p:=p) (q:=q) (fun y hy => h y (List.mem_cons_of_mem _ hy)) ⟨z,hz,h1,h2⟩
      by_cases hp : p x = true
      · rw [if_pos hp,if_pos (hx hp)]; lia
      · rw [if_neg hp]; lia
theorem mem_ins {a b : Int} {x : Int × Int} : ∀ {l : List (Int × Int)},x ∈ insPair a b l ↔ x = (a,b) ∨ x ∈ l
  | [] => by simp [insPair]
  | (c,d) :: r => by
    rw [insPair]
    split
    · simp
    · rw [List.mem_cons,mem_ins,List.mem_cons]
      constructor
      · rintro (h | h | h)
        · exact .inr (.inl h)
        · exact .inl h
        · exact .inr (.inr h)
      · rintro (h | h | h)
        · exact .inr (.inl h)
        · exact .inl h
        · exact .inr (.inr h)
theorem mem_sort {x : Int × Int} : ∀ {l : List (Int × Int)},x ∈ sortPairs l ↔ x ∈ l
  | [] => by simp [sortPairs]
  | (a,b) :: r => by rw [sortPairs,mem_ins,mem_sort,List.mem_cons]
noncomputable abbrev Inc (l : List (Int × Int)) : Prop := l.Pairwise fun x y => x.1 < y.1
theorem ins_inc {a b : Int} : ∀ {l : List (Int × Int)},Inc l -> (∀ x ∈ l,x.1 ≠ a) -> Inc (insPair a b l)
  | [],_,_ => by simp [insPair,Inc]
  | (c,d) :: r,h,hn => by
    unfold Inc at h ⊢
    rw [List.pairwise_cons] at h
    have hc : c ≠ a := hn (c,d) List.mem_cons_self
    rw [insPair]
    split
    · rename_i hlt
      rw [List.pairwise_cons]
      refine ⟨fun x hx => ?_,List.pairwise_cons.mpr h⟩
      rcases List.mem_cons.mp hx with rfl | hx
      · exact hlt
      · have := h.1 x hx
        show a < x.1
        have h' : c < x.1 := this
        lia
    · rename_i hlt
      rw [List.pairwise_cons]
      refine ⟨fun x hx => ?_,ins_inc h.2 fun x hx => hn x (List.mem_cons_of_mem _ hx)⟩
      rcases mem_ins.mp hx with rfl | hx
      · show c < a; lia
      · exact h.1 x hx
theorem sort_inc : ∀ {l : List (Int × Int)},(l.map (·.1)).Nodup -> Inc (sortPairs l)
  | [],_ => by simp [sortPairs,Inc]
  | (a,b) :: r,h => by
    rw [List.map_cons,List.nodup_cons] at h
    rw [sortPairs]
    refine ins_inc (sort_inc h.2) fun x hx e => h.1 ?_
    rw [<- e]
    exact List.mem_map.mpr ⟨x,mem_sort.mp hx,rfl⟩
theorem inc_eq : ∀ {l m : List (Int × Int)},Inc l -> Inc m -> (∀ x,x ∈ l ↔ x ∈ m) -> l = m
  | [],[],_,_,_ => rfl
  | [],y :: m,_,_,h => absurd ((h y).mpr List.mem_cons_self) List.not_mem_nil
  | x :: l,[],_,_,h => absurd ((h x).mp List.mem_cons_self) List.not_mem_nil
  | x :: l,y :: m,hl,hm,h => by
    unfold Inc at hl hm
    rw [List.pairwise_cons] at hl hm
    have e : x = y := by
      rcases List.mem_cons.mp ((h x).mp List.mem_cons_self) with e | e
      · exact e
      · rcases List.mem_cons.mp ((h y).mpr List.mem_cons_self) with e2 | e2
        · exact e2.symm
        · have a1 := hm.1 x e
          have a2 := hl.1 y e2
          lia
    subst e
    rw [inc_eq hl.2 hm.2 fun z => ?_]
    constructor
    · intro hz
      rcases List.mem_cons.mp ((h z).mp (List.mem_cons_of_mem _ hz)) with e | e
      · subst e; have := hl.1 z hz; lia
      · exact e
    · intro hz
      rcases List.mem_cons.mp ((h z).mpr (List.mem_cons_of_mem _ hz)) with e | e
      · subst e; have := hm.1 z hz; lia
      · exact e
noncomputable def rankOf (ps : List (Int × Int)) : List Nat := ps.map fun q => ps.countP fun z => decide (z.1 < q.1)
noncomputable def cmpP (ps : List (Int × Int)) (i j : Nat) : Bool := decide ((ps.getD i (0,0)).1 < (ps.getD j (0,0)).1)
theorem rank_lt {ps : List (Int × Int)} {x y : Int × Int} (hx : x ∈ ps) : (ps.countP fun z => decide (z.1 < x.1)) < (ps.countP fun z => decide (z.1 < y.1)) ↔ x.1 < y.1 := by
  constructor
  · intro h
    by_cases q : x.1 < y.1
    · exact q
    · have := countP_le' (l:=ps) (p:=fun z => decide (z.1 < y.1)) (q:=fun z => decide (z.1 < x.1)) fun z _ hz => by
        simp only [decide_eq_true_eq] at hz ⊢; lia
      lia
  · intro h
    refine countP_lt' (fun z _ hz => ?_) ⟨x,hx,?_,?_⟩
    · simp only [decide_eq_true_eq] at hz ⊢; lia
    · simpa using h
    · simp
theorem sort_pure {ps : List (Int × Int)} (h2 : 2 ≤ ps.length) (h5 : ps.length ≤ 5) (nd : (ps.map (·.1)).Nodup) :
    okT ps.length (cmpP ps) (kas_sort ps.length) = true /\ ((evT' (cmpP ps) (kas_sort ps.length)).toList.map fun i => ps.getD i (0,0)) = sortPairs ps /\ ∀ i ∈ (evT' (cmpP ps) (kas_sort ps.length)).toList,i < ps.length := by
  have hlen : (rankOf ps).length = ps.length := by simp [rankOf]
  have hget : ∀ i,i < ps.length -> ∃ q,ps[i]? = some q /\ q ∈ ps /\ ps.getD i (0,0) = q /\ (rankOf ps).getD i 0 = ps.countP fun z => decide (z.1 < q.1) := fun i hi => by
    refine ⟨ps[i],by simp [hi],List.getElem_mem hi,by simp [hi],?_⟩
    simp [rankOf,hi]
  have hcmp : ∀ i j,i < ps.length -> j < ps.length -> cmpP ps i j = cmpOf (rankOf ps) i j := fun i j hi hj => by
    obtain ⟨x,_,hx,e1,e2⟩ := hget i hi
    obtain ⟨y,_,hy,e3,e4⟩ := hget j hj
    unfold cmpP cmpOf
    rw [e1,e3,e2,e4]
    exact decide_eq_decide.mpr (rank_lt hx).symm
  have hnd : (rankOf ps).Nodup := by
    unfold List.Nodup rankOf
    unfold List.Nodup at nd
    rw [List.pairwise_map] at nd ⊢
    refine List.Pairwise.imp_of_mem (fun {x y} hx hy hne h => ?_) nd
    rcases Int.lt_or_gt_of_ne hne with q | q
    · have := (rank_lt (y:=y) hx).mpr q; lia
    · have := (rank_lt (y:=x) hy).mpr q; lia
  have hmem : rankOf ps ∈ vecs ps.length ps.length := by
    rw [<- hlen]
    refine mem_vecs fun r hr => ?_
    rw [hlen]
    obtain ⟨q,hq,rfl⟩ := List.mem_map.mp hr
    have := countP_lt' (l:=ps) (p:=fun z => decide (z.1 < q.1)) (q:=fun _ => true) (fun _ _ _ => rfl) ⟨q,hq,rfl,by simp⟩
    simpa using this
  have hok : sortsOk ps.length (rankOf ps) = true := by
    have : ps.length = 2 ∨ ps.length = 3 ∨ ps.length = 4 ∨ ps.length = 5 := by lia
    rcases this with e | e | e | e <;> rw [e] at hmem ⊢
    · exact List.all_eq_true.mp sorts2 _ hmem
    · exact List.all_eq_true.mp sorts3 _ hmem
    · exact List.all_eq_true.mp sorts4 _ hmem
    · exact List.all_eq_true.mp sorts5 _ hmem
  unfold sortsOk at hok
  simp only [Bool.or_eq_true,Bool.not_eq_true',decide_eq_false_iff_not,Bool.and_eq_true,beq_iff_eq,List.all_eq_true,decide_eq_true_eq] at hok
  rcases hok with hok | ⟨⟨o1,o2⟩,o3⟩
  · exact absurd hnd hok
  obtain ⟨c1,c2⟩ := ev_congr hcmp (kas_sort ps.length) o1
  rw [c2]
  refine ⟨c1,?_,o3⟩
  generalize (evT' (cmpOf (rankOf ps)) (kas_sort ps.length)).toList = p at o2 o3
  refine inc_eq ?_ (sort_inc nd) fun x => ?_
  · have hp : (p.map fun i => (rankOf ps).getD i 0).Pairwise (· < ·) := by rw [o2]; exact List.pairwise_lt_range
    rw [List.pairwise_map] at hp
    unfold Inc
    rw [List.pairwise_map]
    refine List.Pairwise.imp_of_mem (fun {i j} hi hj h => ?_) hp
    obtain ⟨x,_,hx,e1,e2⟩ := hget i (o3 i hi)
    obtain ⟨y,_,hy,e3,e4⟩ := hget j (o3 j hj)
    rw [e2,e4] at h
    rw [e1,e3]
    exact (rank_lt hx).mp h
  · rw [mem_sort,List.mem_map]
    constructor
    · rintro ⟨i,hi,rfl⟩
      obtain ⟨x,_,hx,e1,_⟩ := hget i (o3 i hi)
      rw [e1]; exact hx
    · intro hx
      have hr : (ps.countP fun z => decide (z.1 < x.1)) ∈ p.map fun i => (rankOf ps).getD i 0 := by
        rw [o2,List.mem_range]
        have := countP_lt' (l:=ps) (p:=fun z => decide (z.1 < x.1)) (q:=fun _ => true) (fun _ _ _ => rfl) ⟨x,hx,rfl,by simp⟩
        simpa using this
      obtain ⟨i,hi,e⟩ := List.mem_map.mp hr
      refine ⟨i,hi,?_⟩
      obtain ⟨y,_,hy,e1,e2⟩ := hget i (o3 i hi)
      rw [e2] at e
      rw [e1]
      have h1 : ¬ y.1 < x.1 := fun q => by have := (rank_lt (y:=x) hy).mpr q; lia
      have h2 : ¬ x.1 < y.1 := fun q => by have := (rank_lt (y:=y) hx).mpr q; lia
      have h3 : y.1 = x.1 := by lia
      have : ∀ {l : List (Int × Int)},(l.map (·.1)).Nodup -> y ∈ l -> x ∈ l -> y = x := by
        intro l
        induction l with
        | nil => intro _ h; cases h
        | cons z l ih =>
          intro hn hy hx
          rw [List.map_cons,List.nodup_cons] at hn
          rcases List.mem_cons.mp hy with hy' | hy' <;> rcases List.mem_cons.mp hx with hx' | hx'
          · rw [hy',hx']
          · exact absurd (List.mem_map.mpr ⟨x,hx',by rw [<- hy',h3]⟩) hn.1
          · exact absurd (List.mem_map.mpr ⟨y,hy',by rw [<- hx',h3]⟩) hn.1
          · exact ih hn.2 hy' hx'
      exact this nd hy hx
section
set_option genInjectivity false
set_option genSizeOfSpec false
section
variable {prog : Program} {w : World} {A : Around} {E : Value -> Shared -> Prop} {s : Shared}
open Builtin Builtin.Str in
theorem split_raw {x y : Str} {t u : Tok} {Q : Value -> Shared -> Prop} (hy : (y.length == 0) = false)
    (hq : ∀ l tk,l.map (·.1) = Txt.split x y -> Q (.ref s.heap.objs.size) { s with heap := s.heap.push { cls := .type "list",data := .seq (strValues l).toArray },toks := tk })
    (hsz : x.length ≤ lim) :
    wpAny (model prog w) A (call (.builtin "str.split") [.str x t,.str y u]) Q E s := by
  have hz1 : x.length ≤ sizeLine := lim_line hsz
  have hz2 : (partsBetween x (occurrences x y 0 x.length (x.length + 1)) y.length).length ≤ sizeLine := by
    unfold partsBetween
    have := StrLaws.occ_length_le x y 0 x.length (x.length + 1)
    simp only [List.length_map,List.length_zip,List.length_cons,List.length_append,List.length_nil]
    simp only [lim] at hsz
    rw [sizeLine_eq]
    lia
  cases h1 : (decide (x.length < y.length) || decide (strKind x < strKind y))
  · cases hf : (occurrences x y 0 x.length (x.length + 1)).isEmpty
    · refine call_meets PySem.F.slot_str_split (typeIs_str _ _ _) PySem.F.entry_str_split (PySem.F.args_str_split_2 _ _) (meets_str_split_sep x y t u h1 hy hf hz1 hz2) ?_
      show wants Q E _ { s with toks := _,heap := s.heap.push { cls := .type "list",data := .seq (strsFrom s.toks (partsBetween x (occurrences x y 0 x.length (x.length + 1)) y.length)).toArray } }
      rw [strsFrom_eq]
      exact hq (numbered s.toks _) _ ((numbered_texts _ _).trans ((if_neg (ne_true_of_eq_false h1)).trans (if_neg (ne_true_of_eq_false hf))).symm)
    · exact call_meets PySem.F.slot_str_split (typeIs_str _ _ _) PySem.F.entry_str_split (PySem.F.args_str_split_2 _ _) (meets_str_split_not_found x y t u h1 hy hf)
        (hq [(x,t)] s.toks ((if_neg (ne_true_of_eq_false h1)).trans (if_pos hf)).symm)
  · exact call_meets PySem.F.slot_str_split (typeIs_str _ _ _) PySem.F.entry_str_split (PySem.F.args_str_split_2 _ _) (meets_str_split_cannot_occur x y t u h1)
      (hq [(x,t)] s.toks (if_pos h1).symm)
theorem find4_raw {x y : Str} {t u v z : Tok} {i j : Int} {Q : Value -> Shared -> Prop} (hi : 0 ≤ i) (hj : 0 ≤ j) (hl : j ≤ x.length)
    (hq : Q (.int (find4 x y i.toNat j.toNat) s.toks) { s with toks := s.toks + 1 }) :
    wpAny (model prog w) A (call (.builtin "str.find") [.str x t,.str y u,.int i v,.int j z]) Q E s := by
  refine call_gives PySem.F.slot_str_find (typeIs_str _ _ _) PySem.F.entry_str_find (PySem.F.args_str_find_4 _ _ _ _) (m:=.int (find4 x y i.toNat j.toNat)) ?_ hq
  have e1 : (max 0 (if i < 0 then i + (x.length : Int) else i)).toNat = i.toNat := by
    rw [if_neg (by lia)]; lia
  have e2 : min (max 0 (if j < 0 then j + (x.length : Int) else j)).toNat x.length = j.toNat := by
    rw [if_neg (by lia)]; lia
  show Gives (match Builtin.Str.occurrences x y (max 0 (if i < 0 then i + (x.length : Int) else i)).toNat (min (max 0 (if j < 0 then j + (x.length : Int) else j)).toNat x.length) 1 with | k :: _ => retInt k | [] => (do rule "str.find.not-found"; retInt (-1))) _
  rw [e1,e2]
  unfold find4
  cases Builtin.Str.occurrences x y i.toNat j.toNat 1 with
  | nil => exact .rule (.of_eq rfl)
  | cons k _ => exact .of_eq rfl
end
theorem joinOk_of {x : Str} {ys : List Str} (h1 : ys.length ≤ 1000) (h2 : x.length ≤ 1000) (h3 : ys.all (fun y => decide (y.length ≤ 1000)) = true) : JoinOk x ys = true := by
  unfold JoinOk
  rw [StrLaws.joinTotal]
  have e1 : (ys.map (·.length)).sum ≤ ys.length * 1000 := StrLaws.sumLen_le ys fun y hy => by simpa using List.all_eq_true.mp h3 y hy
  have e2 : ys.length * x.length ≤ 1000 * 1000 := Nat.mul_le_mul h1 h2
  unfold Builtin.Str.tooLong
  rw [sizeLine_eq]
  simp only [Bool.not_eq_true',decide_eq_false_iff_not]
  lia
theorem maxL_mem : ∀ {l : List Int},l ≠ [] -> maxL l ∈ l
  | [a],_ => by simp [maxL]
  | a :: b :: r,_ => by
    have ih := maxL_mem (l:=b :: r) (by simp)
    unfold maxL
    split
    · exact List.mem_cons_of_mem _ ih
    · exact List.mem_cons_self
theorem maxL_le : ∀ {l : List Int} {a : Int},a ∈ l -> a ≤ maxL l
  | [b],a,h => by simp at h; simp [maxL,h]
  | b :: d :: r,a,h => by
    unfold maxL
    rcases List.mem_cons.mp h with rfl | h
    · split <;> lia
    · have := maxL_le (l:=d :: r) h
      split <;> lia
section
variable {prog : Program} {w : World} {A : Around} {E : Value -> Shared -> Prop} {s : Shared}
theorem max_tup {a : Addr} {vs : List Value} {ns : List Int} {Q : Value -> Shared -> Prop} (hh : A.handled = none) (ht : s.heap.IsTuple a vs.toArray) (hi : IntsAre vs ns) (hne : ns ≠ [])
    (h : ∀ h' tk t,(∀ b o,s.heap.get? b = some o -> h'.get? b = some o) -> Q (.int (maxL ns) t) { s with heap := h',toks := tk }) :
    wpAny (model prog w) A (call (.builtin "max") [.ref a]) Q E s := by
  obtain ⟨xs,hx⟩ := hi.allInts.items
  rw [hx] at ht
  have hlt : a < s.heap.objs.size := by obtain ⟨_,e,_⟩ := ht; exact Heap.lt_size e
  have hns : ns = xs.toList.map (·.1) := by
    have h1 := hi.numsOf
    rw [<- h1]
    have : vs = (intItems xs).toList := by rw [<- hx]
    rw [this,nums_intItems]
  have hsz : 0 < xs.size := by
    rcases Nat.eq_zero_or_pos xs.size with h0 | h0
    · have : xs = #[] := by simpa using h0
      rw [this] at hns; exact absurd hns hne
    · exact h0
  refine call_max_walk (wpAny_pyIter_tuple ht ?_)
  refine ⟨_,[s.heap.objs.size,a],[s.heap.objs.size],_,_,_,_,rfl,Walks.tuple (A:=A.in1) hh _ a (Nat.ne_of_lt hlt) (intItems xs),
    ⟨⟨_,Heap.get?_push_size _ rfl,rfl,rfl⟩,?_⟩,fun c hc => ?_,by simpa [intItems] using hsz,CmpOf.ints_gt (numAt xs) (fun _ _ => intItems_at),fun v h' tk hP hk => ?_⟩
  · obtain ⟨o,ho,r⟩ := ht
    exact ⟨o,Heap.get?_push_of_some _ ho,r⟩
  · show c < (s.heap.push _).objs.size
    rw [Heap.size_push]
    rcases List.mem_cons.mp hc with rfl | hc
    · exact Nat.lt_succ_self _
    · rcases List.mem_cons.mp hc with rfl | hc
      · exact Nat.lt_succ_of_lt hlt
      · cases hc
  · have hold : ∀ c o,s.heap.get? c = some o -> h'.get? c = some o := fun c o e => by
      refine hk c o (fun hm => ?_) (Heap.get?_push_of_some _ e)
      rcases List.mem_cons.mp hm with e1 | hm
      · have := Heap.lt_size e; rw [e1] at this; exact Nat.lt_irrefl _ this
      · cases hm
    have hP' : (intItems xs)[argBest (fun i j => decide (numAt xs i > numAt xs j)) (xs.size - 1)]? = some v := by simpa [intItems] using hP
    obtain ⟨t,rfl⟩ := intItems_at hP'
    obtain ⟨h1,h2⟩ := argBest_gt (numAt xs) (xs.size - 1)
    have e : numAt xs (argBest (fun i j => decide (numAt xs i > numAt xs j)) (xs.size - 1)) = maxL ns := by
      have hin : ∀ j,j ≤ xs.size - 1 -> numAt xs j ∈ ns := fun j hj => by
        rw [hns,numAt_eq]
        exact getD_mem (by rw [List.length_map,Array.length_toList]; lia)
      have a1 := maxL_le (hin _ h1)
      obtain ⟨j,hj,e2⟩ := mem_getD (maxL_mem hne)
      rw [hns,List.length_map,Array.length_toList] at hj
      have a2 := h2 j (by lia)
      rw [<- e2]
      rw [<- e2] at a1
      have e3 : ns.getD j 0 = numAt xs j := by rw [numAt_eq,hns]
      rw [e3] at a1 ⊢
      lia
    rw [e]
    exact h h' tk t hold
end
section
variable {c : Cx} {O : Ow} {Φ : Fz} {s : Shared} {A : Around} {h1 h2 : Heap}
theorem allStrs_are {l : List V} {ys : List Str} {vs : List Value} (r : Reps Φ l vs) (e : allStrs l = some ys) : ∃ q : List (Str × Tok),vs = strValues q /\ q.map (·.1) = ys := by
  induction l generalizing ys vs with
  | nil => cases e; cases r; exact ⟨[],rfl,rfl⟩
  | cons d l ih =>
    cases r with
    | cons h r =>
      cases d <;> simp only [allStrs] at e <;> try cases e
      obtain ⟨ms,e1,rfl⟩ := Option.map_eq_some_iff.mp e
      obtain ⟨t,rfl⟩ := Rep.str_inv h
      obtain ⟨q,rfl,rfl⟩ := ih r e1
      exact ⟨(_,t) :: q,rfl,rfl⟩
theorem strs_rep : ∀ (q : List (Str × Tok)),Reps Φ ((q.map (·.1)).map V.str) (strValues q)
  | [] => .nil
  | (x,t) :: q => .cons (.str x t) (strs_rep q)
inductive RepDs (c : Cx) (O : Ow) (h0 : Heap) (Φ : Fz) (h : Heap) : List D -> List Value -> Prop
  | nil : RepDs c O h0 Φ h [] []
  | cons {d : D} {v : Value} {ds : List D} {vs : List Value} : RepD c O h0 Φ h d v -> RepDs c O h0 Φ h ds vs -> (∀ l,d = .t l -> v ∉ vs) -> RepDs c O h0 Φ h (d :: ds) (v :: vs)
noncomputable def biId : Bi -> String
  | .abs => "abs" | .len => "len" | .sum => "sum" | .max => "max" | .min => "min" | .hex => "hex" | .divmod => "divmod" | .sorted => "sorted" | .range => "range" | .reversed => "reversed"
section
variable {h0 : Heap} {P : Prop}
theorem oneE {f : D -> Option D} {ds : List D} {z : D} (h : one f ds = some z) (k : ∀ a,ds = [a] -> f a = some z -> P) : P := match ds,h with
  | [a],h => k a rfl h
theorem twoE {f : D -> D -> Option D} {ds : List D} {z : D} (h : two f ds = some z) (k : ∀ a b,ds = [a,b] -> f a b = some z -> P) : P := match ds,h with
  | [a,b],h => k a b rfl h
theorem threeE {f : D -> D -> D -> Option D} {ds : List D} {z : D} (h : three f ds = some z) (k : ∀ a b d,ds = [a,b,d] -> f a b d = some z -> P) : P := match ds,h with
  | [a,b,d],h => k a b d rfl h
theorem RepDs.one {d : D} {h : Heap} {vs : List Value} (r : RepDs c O h0 Φ h [d] vs) : ∃ v,vs = [v] /\ RepD c O h0 Φ h d v := by
  cases r with | cons r r2 _ => cases r2; exact ⟨_,rfl,r⟩
theorem RepDs.two {d e : D} {h : Heap} {vs : List Value} (r : RepDs c O h0 Φ h [d,e] vs) : ∃ v u,vs = [v,u] /\ RepD c O h0 Φ h d v /\ RepD c O h0 Φ h e u := by
  cases r with | cons r r2 _ => obtain ⟨u,rfl,q⟩ := r2.one; exact ⟨_,_,rfl,r,q⟩
theorem RepDs.three {d e f : D} {h : Heap} {vs : List Value} (r : RepDs c O h0 Φ h [d,e,f] vs) : ∃ v u x,vs = [v,u,x] /\ RepD c O h0 Φ h d v /\ RepD c O h0 Φ h e u /\ RepD c O h0 Φ h f x := by
  cases r with | cons r r2 _ => obtain ⟨u,x,rfl,q,q2⟩ := r2.two; exact ⟨_,_,_,rfl,r,q,q2⟩
end
noncomputable abbrev Gv (c : Cx) (O : Ow) (Φ : Fz) (s : Shared) (A : Around) (z : D) (id : String) (vs : List Value) : Prop := wpAny (model c.prog c.w) A (call (.builtin id) vs) (PostD c O Φ s z) NoE s
section
variable {z a b d : D} {v u x : Value} {n : Nat}
theorem on1 {f : D -> Option D} {ds : List D} {vs : List Value} {Q : List Value -> Prop} (r : RepDs c O h1 Φ s.heap ds vs) (e : one f ds = some z) (h : ∀ a v,RepD c O h1 Φ s.heap a v -> f a = some z -> Q [v]) : Q vs :=
  oneE e fun a ed e => let ⟨v,ev,r⟩ := RepDs.one (ed ▸ r); ev ▸ h a v r e
theorem on2 {f : D -> D -> Option D} {ds : List D} {vs : List Value} {Q : List Value -> Prop} (r : RepDs c O h1 Φ s.heap ds vs) (e : two f ds = some z) (h : ∀ a b v u,RepD c O h1 Φ s.heap a v -> RepD c O h1 Φ s.heap b u -> f a b = some z -> Q [v,u]) : Q vs :=
  twoE e fun a b ed e => let ⟨v,u,ev,r,r2⟩ := RepDs.two (ed ▸ r); ev ▸ h a b v u r r2 e
theorem on3 {f : D -> D -> D -> Option D} {ds : List D} {vs : List Value} {Q : List Value -> Prop} (r : RepDs c O h1 Φ s.heap ds vs) (e : three f ds = some z) (h : ∀ a b d v u x,RepD c O h1 Φ s.heap a v -> RepD c O h1 Φ s.heap b u -> RepD c O h1 Φ s.heap d x -> f a b d = some z -> Q [v,u,x]) : Q vs :=
  threeE e fun a b d ed e => let ⟨v,u,x,ev,r,r2,r3⟩ := RepDs.three (ed ▸ r); ev ▸ h a b d v u x r r2 r3 e
theorem katTups_of {h : Heap} : ∀ {ps : List (Int × Int)} {vs : List Value},vs.length = ps.length -> (∀ (i : Nat) q,ps[i]? = some q -> ∃ x ob k t u,vs[i]? = some (.ref x) /\ h.get? x = some ob /\ ob.cls = .type "tuple" /\ ob.data = .seq #[.int q.1 t,.int q.2 u] k) ->
    ∃ fs : List Value,KatTups h vs fs /\ fs.length = ps.length /\ ∀ v ∈ fs,∃ a t,v = .int a t
  | [],[],_,_ => ⟨[],.nil,rfl,fun _ h => nomatch h⟩
  | [],_ :: _,h,_ => by cases h
  | _ :: _,[],h,_ => by cases h
  | q :: ps,v :: vs,hl,H => by
    obtain ⟨x,ob,k,t,u,e1,e2,e3,e4⟩ := H 0 q rfl
    obtain ⟨fs,h1,h2,h3⟩ := katTups_of (ps:=ps) (vs:=vs) (by simpa using hl) fun i q' hq => by simpa using H (i + 1) q' (by simpa using hq)
    simp at e1
    subst e1
    refine ⟨.int q.1 t :: fs,.cons e2 e3 e4 rfl h1,by simp [h2],fun w hw => ?_⟩
    rcases List.mem_cons.mp hw with rfl | hw
    · exact ⟨_,_,rfl⟩
    · exact h3 w hw
theorem V.intE' {d : V} {i : Int} (e : d.asInt = some i) : d = .int i := by
  cases d with
  | int j => cases Option.some.inj e; rfl
  | none => exact noneE e
  | bool => exact noneE e
  | str => exact noneE e
  | tup => exact noneE e
  | list => exact noneE e
theorem V.tupE' {d : V} {l : List V} (e : d.asTup = some l) : d = .tup l := by
  cases d with
  | tup j => cases Option.some.inj e; rfl
  | none => exact noneE e
  | bool => exact noneE e
  | str => exact noneE e
  | int => exact noneE e
  | list => exact noneE e
theorem pairE {d : V} {p : Int × Int} (e : pairOf d = some p) : d = ofPair p :=
  bindE e fun l el e => match l,e,el with
    | [],e,_ => noneE e
    | [_],e,_ => noneE e
    | _ :: _ :: _ :: _,e,_ => noneE e
    | [a,b],e,el => bindE e fun x ex e => bindE e fun y ey e => by
      cases Option.some.inj e
      rw [V.tupE' el,V.intE' ex,V.intE' ey]; rfl
theorem pairs_at {l : List V} {ps : List (Int × Int)} {vs : List Value} {h : Heap} (kin : Φ.In h) (r : Reps Φ l vs) (e : allPairs l = some ps) :
    l = ps.map ofPair /\ ∀ (i : Nat) q,ps[i]? = some q -> ∃ x ob k t u,vs[i]? = some (.ref x) /\ h.get? x = some ob /\ ob.cls = .type "tuple" /\ ob.data = .seq #[.int q.1 t,.int q.2 u] k := by
  induction l generalizing ps vs with
  | nil => cases Option.some.inj e; cases r; exact ⟨rfl,fun i q h => noneE h⟩
  | cons d l ih =>
    cases r with
    | cons hd r =>
      refine bindE e fun p ep e => mapE e fun rest e1 e2 => ?_
      subst e2
      obtain ⟨h1,h2⟩ := ih r e1
      cases pairE ep
      refine ⟨congrArg (ofPair p :: ·) h1,fun i q hq => ?_⟩
      cases i with
      | succ i => exact h2 i q hq
      | zero =>
        cases Option.some.inj hq
        cases hd with
        | tup p1 p4 =>
          rename_i us m
          obtain ⟨us⟩ := us
          cases p4 with
          | cons q1 q2 => cases q2 with
            | cons q2 q3 =>
              cases q3
              obtain ⟨t1,rfl⟩ := Rep.int_inv q1
              obtain ⟨t2,rfl⟩ := Rep.int_inv q2
              exact ⟨_,_,m,t1,t2,rfl,kin _ _ p1,rfl,rfl⟩
theorem take_reps {ps : List (Int × Int)} {ws : List Value} (p2 : Reps Φ (ps.map ofPair) ws) : ∀ il : List Nat,(∀ i ∈ il,i < ps.length) -> Reps Φ ((il.map fun i => ps.getD i (0,0)).map ofPair) (il.map fun i => ws.getD i Value.none)
  | [],_ => .nil
  | i :: il,h => by
    have hi := h i List.mem_cons_self
    refine .cons ?_ (take_reps p2 il fun j hj => h j (List.mem_cons_of_mem _ hj))
    have e0 : (ps.map ofPair)[i]? = some (ofPair (ps.getD i (0,0))) := by simp [hi]
    obtain ⟨v,v1,v2⟩ := p2.get e0
    have e5 : ws.getD i Value.none = v := by simp [List.getD,v1]
    show Rep Φ (ofPair (ps.getD i (0,0))) (ws.getD i Value.none)
    rw [e5]; exact v2
theorem sort_ask {ps : List (Int × Int)} {ws : List Value} {h' : Heap} {A : Around} (h2 : 2 ≤ ps.length) (h5 : ps.length ≤ 5) (nd : (ps.map (·.1)).Nodup) (hwl : ws.length = ps.length) (hat : ∀ (i : Nat) q,ps[i]? = some q -> ∃ x ob k t u,ws[i]? = some (.ref x) /\ h'.get? x = some ob /\ ob.cls = .type "tuple" /\ ob.data = .seq #[.int q.1 t,.int q.2 u] k)
    (s1 : okT ps.length (cmpP ps) (kas_sort ps.length) = true) {s : Shared} {G : Array Nat -> Shared -> Prop} (hG : G (evT' (cmpP ps) (kas_sort ps.length)) { s with heap := h' }) :
    wpAny (model c.prog c.w) A (keyKind' ws.toArray) (fun κ s' => (kas_sort ws.length).kasWp (kas_ask c.prog c.w A κ ws) G s') (fun _ _ => False) { s with heap := h' } := by
  obtain ⟨fs,t1,t2,t3⟩ := katTups_of hwl hat
  refine kat_kind (T:=.type "int") t1 (by lia) (fun v hv => ?_) rfl ?_
  · obtain ⟨a,t,rfl⟩ := t3 v hv
    exact .now
  · rw [hwl]
    refine wp_ev (n:=ps.length) (c:=cmpP ps) (fun i j hi hj C hC => ?_) _ s1 hG
    have gi : ps[i]? = some ps[i] := by simp [hi]
    have gj : ps[j]? = some ps[j] := by simp [hj]
    obtain ⟨x,ox,kx,tx,ux,x1,x2,x3,x4⟩ := hat i _ gi
    obtain ⟨y,oy,ky,ty,uy,y1,y2,y3,y4⟩ := hat j _ gj
    have ei : ws.getD i Value.none = .ref x := by simp [List.getD,x1]
    have ej : ws.getD j Value.none = .ref y := by simp [List.getD,y1]
    have hcc : cmpP ps i j = decide (ps[i].1 < ps[j].1) := by simp [cmpP,hi,hj]
    rw [hcc] at hC
    unfold kas_ask
    rw [ei,ej]
    refine kat_lt x2 x4 y2 y4 ?_
    show KatLex _ _ _ _ _ _ [(.int ps[i].1 tx,.int ps[j].1 ty),(.int ps[i].2 ux,.int ps[j].2 uy)] 0 _
    refine kat_cons (wpAny_eqBool_int ?_)
    by_cases he : ps[i].1 = ps[j].1
    · have hij : i = j := by
        have a1 : (ps.map (·.1))[i]? = some ps[i].1 := by simp [hi]
        have a2 : (ps.map (·.1))[j]? = some ps[j].1 := by simp [hj]
        exact (List.getElem?_inj (by simpa using hi) nd).mp (a1.trans (by rw [he]; exact a2.symm))
      subst hij
      have eb : (ps[i].1 == ps[i].1) = true := by simp
      rw [eb]
      refine kat_yes (kat_cons (wpAny_eqBool_int ?_))
      have eb2 : (ps[i].2 == ps[i].2) = true := by simp
      rw [eb2]
      refine kat_yes (kat_nil ?_)
      simpa using hC
    · have eb : (ps[i].1 == ps[j].1) = false := by simpa using he
      rw [eb]
      exact kat_no (oneLt_int hC)
theorem sort_few {ps : List (Int × Int)} (h : ps.length < 2) : sortPairs ps = ps := match ps,h with
  | [],_ => rfl
  | [_],_ => rfl
variable (k : OkS c Φ s)
include k
theorem op_sorted (r : RepD c O h1 Φ s.heap a v) (e : (a.listOnly.bind fun l => (allPairs l).bind fun ps => if ps.length ≤ 5 /\ (ps.map (·.1)).Nodup then some (D.t ((sortPairs ps).map ofPair)) else none) = some z) : Gv c O Φ s A z "sorted" [v] :=
  bindE e fun l el e => bindE e fun ps ep e => iteE e fun hc e => Option.some.inj e ▸ by
    obtain ⟨p,ws,rfl,p1,p2,_⟩ := r.list_at k el
    obtain ⟨hl,hat⟩ := pairs_at k.inn p2 ep
    subst hl
    have hwl : ws.length = ps.length := p2.length.trans (List.length_map _)
    have fin : ∀ D h' cc,∀ ls us,Reps Φ ls us -> (∀ b o,s.heap.get? b = some o -> h'.get? b = some o) -> s.heap.get? D = none -> h'.get? D = some (seqObj "list" us.toArray cc) -> PostD c O Φ s (.t ls) (.ref D) { s with heap := h' } := fun D h' cc ls us hr hk hD hDo =>
      ⟨Φ,Wd.keep (tk:=s.toks) k hk,D,us,rfl,⟨cc,hDo⟩,hr,k.fresh_F hD,k.fresh_T hD,hD⟩
    by_cases h2 : ps.length < 2
    · rw [sort_few h2]
      exact sorted_short p1 (hwl ▸ h2) fun D h' cc hk hD hDo => fin D h' cc _ ws p2 hk hD hDo
    · obtain ⟨s1,s2,s3⟩ := sort_pure (Nat.le_of_not_lt h2) hc.1 hc.2
      refine sorted_exact (out:=(evT' (cmpP ps) (kas_sort ps.length)).toList.map fun i => ws.getD i Value.none) p1 (by lia) (by have := hc.1; lia) (fun h' hk G hG => ?_) (fun D h' cc hk hD hDo => fin D h' cc _ _ (s2 ▸ take_reps p2 _ s3) hk hD hDo)
      exact sort_ask (Nat.le_of_not_lt h2) hc.1 hc.2 hwl (fun i q hq => let ⟨x,ob,k,t,u,a1,a2,a3⟩ := hat i q hq; ⟨x,ob,k,t,u,a1,hk _ _ a2,a3⟩) s1 (hG _ rfl)
theorem op_abs (r : RepD c O h1 Φ s.heap a v) (e : (a.int.bind fun a => some (D.v (.int (if a < 0 then -a else a)))) = some z) : Gv c O Φ s A z "abs" [v] :=
  bindE e fun i ei e => Option.some.inj e ▸ r.intE ei (P:=fun v => Gv c O Φ s A _ "abs" [v]) fun t => call_abs_int fun u tk => post_int k
theorem op_len (r : RepD c O h1 Φ s.heap a v) (e : ((match a.str with | some x => some x.length | none => a.items.map List.length).bind fun n => if n ≤ lim then some (D.v (.int n)) else none) = some z) : Gv c O Φ s A z "len" [v] :=
  bindE e fun n en e => iteE e fun hn e => Option.some.inj e ▸ by
    have hn' : n ≤ 2 ^ 20 := hn
    cases q : a.str with
    | some y =>
      rw [q] at en
      cases en
      exact r.strE q (P:=fun v => Gv c O Φ s A _ "len" [v]) fun t => P.len_str (by lia) (post_int k)
    | none =>
      rw [q] at en
      refine mapE en fun l el hl => ?_
      subst hl
      obtain ⟨p,ws,rfl,p1,p2,_⟩ := r.items_at k el
      rw [show (l.length : Int) = (ws.toArray.size : Int) by rw [List.size_toArray,p2.length]]
      have hw : ws.toArray.size ≤ 2 ^ 20 := by rw [List.size_toArray,p2.length]; exact hn'
      exact p1.elim (fun p1 => PySem.Calls.call_len_list p1 (by lia) (post_int k)) fun p1 => PyProof.Rows.len_tuple p1 (by lia) (post_int k)
theorem op_sum (R : Room A n) (r : RepD c O h1 Φ s.heap a v) (e : (a.listOnly.bind fun l => (allInts l).bind fun ns => if ns.length ≤ lim then some (D.v (.int ns.sum)) else none) = some z) : Gv c O Φ s A z "sum" [v] :=
  bindE e fun l el e => bindE e fun ns en e => iteE e fun hn e => Option.some.inj e ▸ by
    obtain ⟨p,ws,rfl,p1,p2,_⟩ := r.list_at k el
    have hi := allInts_are p2 en
    obtain ⟨xs,hx⟩ := hi.allInts.items
    rw [hx] at p1
    refine PySem.sum_intListG R.1 p1 fun h' tk t' hk => ?_
    rw [show preSum (numAt xs) xs.size = ns.sum by
      rw [preSum_eq,List.take_of_length_le (by simp),<- hi.numsOf,show ws = (intItems xs).toList by rw [<- hx],nums_intItems]]
    exact ⟨Φ,Wd.keep k hk,.int _ _⟩
theorem op_maxT (R : Room A n) (r : RepD c O h1 Φ s.heap a v) (e : (a.tup.bind fun l => (allInts l).bind fun ns => if ns ≠ [] /\ ns.length ≤ 64 then some (D.v (.int (maxL ns))) else none) = some z) : Gv c O Φ s A z "max" [v] :=
  bindE e fun l el e => bindE e fun ns en e => iteE e fun hn e => Option.some.inj e ▸ by
    cases D.tupE el
    obtain ⟨a,o,ws,n,rfl,p1,p2,p3,p4⟩ := Rep.tup_inv r
    exact max_tup R.1 ⟨o,k.inn _ _ p1,p2,n,p3⟩ (allInts_are p4 en) hn.1 fun h' tk t hk => ⟨Φ,Wd.keep k hk,.int _ _⟩
theorem op_max2 (R : Room A n) (r : RepD c O h1 Φ s.heap a v) (r2 : RepD c O h1 Φ s.heap b u) (e : (a.int.bind fun a => b.int.bind fun b => some (D.v (.int (if b > a then b else a)))) = some z) : Gv c O Φ s A z "max" [v,u] :=
  bindE e fun i ei e => bindE e fun j ej e => Option.some.inj e ▸ r.intE ei (P:=fun v => Gv c O Φ s A _ "max" [v,u]) fun t => r2.intE ej (P:=fun u => Gv c O Φ s A _ "max" [_,u]) fun t' => max_two_ints R.1 fun h' tk hk => by
    split
    · exact ⟨Φ,Wd.keep k hk,.int _ _⟩
    · exact ⟨Φ,Wd.keep k hk,.int _ _⟩
theorem op_min2 (R : Room A n) (r : RepD c O h1 Φ s.heap a v) (r2 : RepD c O h1 Φ s.heap b u) (e : (a.int.bind fun a => b.int.bind fun b => some (D.v (.int (if b < a then b else a)))) = some z) : Gv c O Φ s A z "min" [v,u] :=
  bindE e fun i ei e => bindE e fun j ej e => Option.some.inj e ▸ r.intE ei (P:=fun v => Gv c O Φ s A _ "min" [v,u]) fun t => r2.intE ej (P:=fun u => Gv c O Φ s A _ "min" [_,u]) fun t' => min_two_ints R.1 fun h' tk hk => by
    split
    · exact ⟨Φ,Wd.keep k hk,.int _ _⟩
    · exact ⟨Φ,Wd.keep k hk,.int _ _⟩
theorem op_hex (r : RepD c O h1 Φ s.heap a v) (e : (a.int.bind fun a => if (baseText "0x" 16 a).length ≤ lim then some (D.v (.str (baseText "0x" 16 a))) else none) = some z) : Gv c O Φ s A z "hex" [v] :=
  bindE e fun i ei e => iteE e fun hn e => Option.some.inj e ▸ r.intE ei (P:=fun v => Gv c O Φ s A _ "hex" [v]) fun t => P.hex_of_int (post_str k) (lim_line hn)
theorem op_divmod (r : RepD c O h1 Φ s.heap a v) (r2 : RepD c O h1 Φ s.heap b u) (e : (a.int.bind fun a => b.int.bind fun b => if b ≠ 0 /\ bits b < 9000 then some (D.v (.tup [.int (a.fdiv b),.int (a.fmod b)])) else none) = some z) : Gv c O Φ s A z "divmod" [v,u] :=
  bindE e fun i ei e => bindE e fun j ej e => iteE e fun h e => Option.some.inj e ▸ r.intE ei (P:=fun v => Gv c O Φ s A _ "divmod" [v,u]) fun t => r2.intE ej (P:=fun u => Gv c O Φ s A _ "divmod" [_,u]) fun t' =>
    divmod_int h.1 (post_tup (vs:=[_,_]) k (.cons (.int _ _) (.cons (.int _ _) .nil))) (.inl (pylong h.2))
theorem op_max {ds : List D} {vs : List Value} (R : Room A n) (r : RepDs c O h1 Φ s.heap ds vs) (e : maxD ds = some z) : Gv c O Φ s A z "max" vs :=
  match ds,r,e with
  | [a],r,e => let ⟨v,ev,r⟩ := r.one; ev ▸ op_maxT k R r e
  | [],r,e => on2 r e fun a b v u r r2 e => op_max2 k R r r2 e
  | _ :: _ :: _,r,e => on2 r e fun a b v u r r2 e => op_max2 k R r r2 e
theorem op_bi {b : Bi} {ds : List D} {vs : List Value} (R : Room A n) (r : RepDs c O h1 Φ s.heap ds vs) (e : biD b ds = some z) : Gv c O Φ s A z (biId b) vs := by
  cases b with
  | abs => exact on1 r e fun a v r e => op_abs k r e
  | len => exact on1 r e fun a v r e => op_len k r e
  | sum => exact on1 r e fun a v r e => op_sum k R r e
  | max => exact op_max k R r e
  | min => exact on2 r e fun a b v u r r2 e => op_min2 k R r r2 e
  | hex => exact on1 r e fun a v r e => op_hex k r e
  | divmod => exact on2 r e fun a b v u r r2 e => op_divmod k r r2 e
  | sorted => exact on1 r e fun a v r e => op_sorted k r e
  | range => cases e
  | reversed => cases e
theorem op_split (ra : RepD c O h2 Φ s.heap a x) (r : RepD c O h1 Φ s.heap b v) (e : (a.str.bind fun x => b.str.bind fun y => if y.length ≠ 0 /\ x.length ≤ lim then some (D.t ((Txt.split x y).map .str)) else none) = some z) : Gv c O Φ s A z "str.split" [x,v] :=
  bindE e fun i ei e => bindE e fun j ej e => iteE e fun h e => Option.some.inj e ▸ ra.strE ei (P:=fun x => Gv c O Φ s A _ "str.split" [x,v]) fun t => r.strE ej (P:=fun v => Gv c O Φ s A _ "str.split" [_,v]) fun t' =>
    split_raw (beq_eq_false_iff_ne.mpr h.1) (fun l tk hl => hl ▸ post_list k (strs_rep l)) h.2
theorem op_join (ra : RepD c O h2 Φ s.heap a x) (r : RepD c O h1 Φ s.heap b v) (e : (a.str.bind fun x => b.listOnly.bind fun l => (allStrs l).bind fun ys => if ys.length ≤ 1000 /\ x.length ≤ 1000 /\ ys.all (fun y => y.length ≤ 1000) then some (D.v (.str (Txt.join x ys))) else none) = some z) : Gv c O Φ s A z "str.join" [x,v] :=
  bindE e fun i ei e => bindE e fun l el e => bindE e fun ys ey e => iteE e fun h e => Option.some.inj e ▸ ra.strE ei (P:=fun x => Gv c O Φ s A _ "str.join" [x,v]) fun t => by
    obtain ⟨p,ws,rfl,p1,p2,_⟩ := r.list_at k el
    obtain ⟨q,rfl,hq⟩ := allStrs_are p2 ey
    exact SC.join p1 hq (joinOk_of h.1 h.2.1 h.2.2) fun t' tk => post_str k
theorem op_bits {ds : List D} {vs : List Value} (ra : RepD c O h2 Φ s.heap a x) (r : RepDs c O h1 Φ s.heap ds vs) (e : bitsD a ds = some z) : Gv c O Φ s A z "int.bit_length" (x :: vs) :=
  bindE e fun i ei e => match ds,r,e with
  | [],r,e => Option.some.inj e ▸ ra.intE ei (P:=fun x => Gv c O Φ s A _ "int.bit_length" (x :: vs)) fun t => by cases r; exact call_int_bit_length (post_int k)
theorem op_starts (ra : RepD c O h2 Φ s.heap a x) (r : RepD c O h1 Φ s.heap b v) (e : (a.str.bind fun x => b.str.bind fun y => some (D.v (.bool (Txt.startswith x y)))) = some z) : Gv c O Φ s A z "str.startswith" [x,v] :=
  bindE e fun i ei e => bindE e fun j ej e => Option.some.inj e ▸ ra.strE ei (P:=fun x => Gv c O Φ s A _ "str.startswith" [x,v]) fun t => r.strE ej (P:=fun v => Gv c O Φ s A _ "str.startswith" [_,v]) fun t' => SC.startswith (post_bool k)
theorem op_ends (ra : RepD c O h2 Φ s.heap a x) (r : RepD c O h1 Φ s.heap b v) (e : (a.str.bind fun x => b.str.bind fun y => some (D.v (.bool (Txt.endswith x y)))) = some z) : Gv c O Φ s A z "str.endswith" [x,v] :=
  bindE e fun i ei e => bindE e fun j ej e => Option.some.inj e ▸ ra.strE ei (P:=fun x => Gv c O Φ s A _ "str.endswith" [x,v]) fun t => r.strE ej (P:=fun v => Gv c O Φ s A _ "str.endswith" [_,v]) fun t' => SC.endswith (post_bool k)
theorem op_find {w : Value} (ra : RepD c O h2 Φ s.heap a x) (r : RepD c O h1 Φ s.heap b v) {i j : D} (r2 : RepD c O h1 Φ s.heap i u) (r3 : RepD c O h1 Φ s.heap j w) (e : (a.str.bind fun x => b.str.bind fun y => i.int.bind fun i => j.int.bind fun j => if 0 ≤ i /\ i ≤ x.length /\ 0 ≤ j /\ j ≤ x.length /\ x.length ≤ lim then some (D.v (.int (find4 x y i.toNat j.toNat))) else none) = some z) : Gv c O Φ s A z "str.find" [x,v,u,w] :=
  bindE e fun p ep e => bindE e fun q eq e => bindE e fun m em e => bindE e fun n en e => iteE e fun h e => Option.some.inj e ▸ ra.strE ep (P:=fun x => Gv c O Φ s A _ "str.find" [x,v,u,w]) fun t => r.strE eq (P:=fun v => Gv c O Φ s A _ "str.find" [_,v,u,w]) fun t1 =>
    r2.intE em (P:=fun u => Gv c O Φ s A _ "str.find" [_,_,u,w]) fun t2 => r3.intE en (P:=fun w => Gv c O Φ s A _ "str.find" [_,_,_,w]) fun t3 => find4_raw h.1 h.2.2.1 h.2.2.2.1 (post_int k)
theorem op_count (ra : RepD c O h2 Φ s.heap a x) (r : RepD c O h1 Φ s.heap b v) (e : (b.int.bind fun k => a.listOnly.bind fun l => (allInts l).bind fun ns => if ns.length ≤ lim then some (D.v (.int (ns.count k))) else none) = some z) : Gv c O Φ s A z "list.count" [x,v] :=
  bindE e fun i ei e => bindE e fun l el e => bindE e fun ns en e => iteE e fun h e => Option.some.inj e ▸ r.intE ei (P:=fun v => Gv c O Φ s A _ "list.count" [x,v]) fun t => by
    obtain ⟨p,ws,rfl,p1,p2,_⟩ := ra.list_at k el
    exact count_list_ints p1 (allInts_are p2 en) (post_int k)
end
noncomputable def meId : Me -> String
  | .split => "str.split" | .join => "str.join" | .bitLength => "int.bit_length" | .startswith => "str.startswith" | .endswith => "str.endswith" | .find => "str.find" | .count => "list.count"
theorem op_me {m : Me} {a z : D} {ds : List D} {x : Value} {vs : List Value} {n : Nat} (k : OkS c Φ s) (R : Room A n) (ra : RepD c O h2 Φ s.heap a x) (r : RepDs c O h1 Φ s.heap ds vs) (e : meD m a ds = some z) : Gv c O Φ s A z (meId m) (x :: vs) := by
  cases m with
  | split => exact on1 (Q:=fun vs => Gv c O Φ s A z _ (x :: vs)) r e fun b v r e => op_split k ra r e
  | join => exact on1 (Q:=fun vs => Gv c O Φ s A z _ (x :: vs)) r e fun b v r e => op_join k ra r e
  | bitLength => exact op_bits k ra r e
  | startswith => exact on1 (Q:=fun vs => Gv c O Φ s A z _ (x :: vs)) r e fun b v r e => op_starts k ra r e
  | endswith => exact on1 (Q:=fun vs => Gv c O Φ s A z _ (x :: vs)) r e fun b v r e => op_ends k ra r e
  | find => exact on3 (Q:=fun vs => Gv c O Φ s A z _ (x :: vs)) r e fun b i j v u w r r2 r3 e => op_find k ra r r2 r3 e
  | count => exact on1 (Q:=fun vs => Gv c O Φ s A z _ (x :: vs)) r e fun b v r e => op_count k ra r e
end
end
section
set_option genInjectivity false
set_option genSizeOfSpec false
structure Gd (c : Cx) (τ : Tb) (ε : Ev) (n : Nat) : Prop where
  nm : Nm τ
  gv : ∀ (i : Nat) x v,τ.gn[i]? = some x -> ε.G i = some v -> ∃ val,c.mg x = some val /\ ∀ Φ,Rep Φ v val
  bi : ∀ b,b ≠ .range -> b ≠ .reversed -> c.mg (biName b) = none /\ c.mb (biName b) = some (.builtin (biId b))
  bt : (c.mg (biName .range) = none /\ c.mb (biName .range) = some (.type "range")) /\ (c.mg (biName .reversed) = none /\ c.mb (biName .reversed) = some (.type "reversed"))
  fn : ∀ (i : Nat) x,τ.fn[i]? = some x -> ∃ a o fd,c.mg x = some (.ref a) /\ c.b0.get? a = some o /\ o.data = .func fd
  call : ∀ (i : Nat) x a args d,τ.fn[i]? = some x -> c.mg x = some (.ref a) -> ε.F i args = some d -> ∀ A Φ s vs,Room A n -> OkS c Φ s -> 0 < s.toks -> Reps Φ args vs ->
    wpAny (model c.prog c.w) A (call (.ref a) vs) (PostV c Φ s d) NoE s
  tab : ∃ d D,c.mg τ.tn = some (.ref d) /\ IntTab c.prog c.w c.b0 d D /\ (∀ h : Heap,(∀ b o,c.b0.get? b = some o -> h.get? b = some o) -> IntTab c.prog c.w h d D) /\
    (∀ h : Heap,(∀ b o,c.b0.get? b = some o -> h.get? b = some o) -> ∃ ob,h.get? d = some ob /\ ob.dict = none /\ ob.cls = .type "dict") /\ ∀ i z,(Spec.lookup (PyData.int i) D).getD (.str z) = .str ((getTb ε.tb i).getD z)
structure Fx where
  c : Cx
  τ : Tb
  ε : Ev
  n : Nat
  A : Around
  K : Kd
  env : Env
structure St where
  Φ : Fz
  s : Shared
noncomputable abbrev Fx.M (F : Fx) : Model := model F.c.prog F.c.w
noncomputable abbrev Fx.W (F : Fx) {α : Type} (t : Sem α) (Q : α -> Shared -> Prop) (s : Shared) : Prop := wpAny F.M F.A t Q NoE s
structure Ok (F : Fx) (ρ : Loc) (O : Ow) (σ : St) : Prop where
  K : ∀ y,F.env.kindOf y = F.K y
  R : Room F.A F.n
  fr : FrOk F.c F.τ.nm F.env ρ O σ.Φ σ.s
  k : OkS F.c σ.Φ σ.s
  t : 0 < σ.s.toks
noncomputable def Sp (c : Cx) (σ σ' : St) : Prop := Wd c NoX σ.Φ σ.s σ'.Φ σ'.s
noncomputable def Rp (c : Cx) (O : Ow) (σ σ' : St) (d : D) (v : Value) : Prop := RepD c O σ.s.heap σ'.Φ σ'.s.heap d v
noncomputable def Rps (c : Cx) (O : Ow) (σ σ' : St) (d : List D) (v : List Value) : Prop := RepDs c O σ.s.heap σ'.Φ σ'.s.heap d v
noncomputable def Go (F : Fx) (O : Ow) (σ : St) (t : Sem Value) (d : D) : Prop := F.W t (fun v s' => PostD F.c O σ.Φ σ.s d v s' /\ 0 < s'.toks) σ.s
noncomputable def GoT (F : Fx) (σ : St) (t : Sem Bool) (b : Bool) : Prop := F.W t (fun v s' => (v = b /\ ∃ Φ',Wd F.c NoX σ.Φ σ.s Φ' s') /\ 0 < s'.toks) σ.s
noncomputable def GoL (F : Fx) (O : Ow) (σ : St) (t : Sem (List Value)) (ds : List D) : Prop := F.W t (fun vs s' => (∃ Φ',Wd F.c NoX σ.Φ σ.s Φ' s' /\ RepDs F.c O σ.s.heap Φ' s'.heap ds vs) /\ 0 < s'.toks) σ.s
section
variable {M : Model} {A : Around} {s : Shared} {α : Type}
theorem withToks {t : Sem α} {Q : α -> Shared -> Prop} (h0 : 0 < s.toks) (h : wpAny M A t Q NoE s) : wpAny M A t (fun v s' => Q v s' /\ 0 < s'.toks) NoE s :=
  wpAny_mono (wpAny_toks_of (n:=1) h0 h) (fun _ _ x => ⟨x.2,x.1⟩) fun _ _ x => x.2
end
section
variable {c : Cx} {O : Ow} {σ σ' σ'' : St} {d : D} {v : Value}
theorem PostD.of {Φ Φ' : Fz} {s s' s'' : Shared} (w : Wd c NoX Φ s Φ' s') (p : PostD c O Φ' s' d v s'') : PostD c O Φ s d v s'' :=
  let ⟨Φ2,w2,r⟩ := p; ⟨Φ2,w.then w2,r.base w.up⟩
theorem Sp.to (w : Sp c σ σ') (w' : Sp c σ' σ'') : Sp c σ σ'' := Wd.then w w'
theorem Rp.up (r : Rp c O σ σ' d v) (w : Sp c σ' σ'') : Rp c O σ σ'' d v := RepD.step r w
theorem Rp.down (r : Rp c O σ' σ'' d v) (w : Sp c σ σ') : Rp c O σ σ'' d v := RepD.base r (Wd.up w)
theorem RepDs.step {h1 : Heap} {Φ Φ' : Fz} {s s' : Shared} {ds : List D} {vs : List Value} (r : RepDs c O h1 Φ s.heap ds vs) (w : Wd c NoX Φ s Φ' s') : RepDs c O h1 Φ' s'.heap ds vs := by
  induction r with
  | nil => exact .nil
  | cons r _ h ih => exact .cons (r.step w) ih h
theorem RepDs.base {h0 h1 : Heap} {Φ : Fz} {s : Shared} {ds : List D} {vs : List Value} (r : RepDs c O h1 Φ s.heap ds vs) (g : ∀ b,(h0.get? b).isSome = true -> (h1.get? b).isSome = true) : RepDs c O h0 Φ s.heap ds vs := by
  induction r with
  | nil => exact .nil
  | cons r _ h ih => exact .cons (RepD.base (s:=s) r g) ih h
theorem Rp.int {i : Int} (r : Rp c O σ σ' d v) (e : d.int = some i) {P : Value -> Prop} (k : ∀ t,P (.int i t)) : P v :=
  match d,D.intE e,r with
  | _,rfl,r => let ⟨t,q⟩ := Rep.int_inv r; q ▸ k t
theorem Rp.str {i : Str} (r : Rp c O σ σ' d v) (e : d.str = some i) {P : Value -> Prop} (k : ∀ t,P (.str i t)) : P v :=
  match d,D.strE e,r with
  | _,rfl,r => let ⟨t,q⟩ := Rep.str_inv r; q ▸ k t
end
section
variable {F : Fx} {ρ : Loc} {O : Ow} {σ σ' : St}
theorem Ok.next (a : Ok F ρ O σ) (w : Sp F.c σ σ') (t : 0 < σ'.s.toks) : Ok F ρ O σ' := ⟨a.K,a.R,a.fr.next w,Wd.ok w,t⟩
theorem Go.mk {t : Sem Value} {d : D} (a : Ok F ρ O σ) (h : F.W t (PostD F.c O σ.Φ σ.s d) σ.s) : Go F O σ t d := withToks a.t h
theorem Go.on {t : Sem Value} {d : D} (w : Sp F.c σ σ') (h : F.W t (PostD F.c O σ'.Φ σ'.s d) σ'.s) : F.W t (PostD F.c O σ.Φ σ.s d) σ'.s :=
  wpAny_mono h (fun _ _ h => PostD.of w h) fun _ _ q => q
theorem Go.on' {t : Sem Value} {d : D} (w : Sp F.c σ σ') (h : Go F O σ' t d) : F.W t (fun v s' => PostD F.c O σ.Φ σ.s d v s' /\ 0 < s'.toks) σ'.s :=
  wpAny_mono h (fun _ _ h => ⟨PostD.of w h.1,h.2⟩) fun _ _ q => q
theorem Go.then {t : Sem Value} {d : D} {Q : Value -> Shared -> Prop} (a : Ok F ρ O σ) (h : Go F O σ t d) (k : ∀ v σ',Sp F.c σ σ' -> Rp F.c O σ σ' d v -> Ok F ρ O σ' -> Q v σ'.s) : F.W t Q σ.s :=
  wpAny_mono h (fun v s' ⟨⟨Φ',w,r⟩,e⟩ => k v ⟨Φ',s'⟩ w r (a.next (σ' := ⟨Φ',s'⟩) w e)) fun _ _ q => q
theorem GoT.then {t : Sem Bool} {b : Bool} {Q : Bool -> Shared -> Prop} (a : Ok F ρ O σ) (h : GoT F σ t b) (k : ∀ σ',Sp F.c σ σ' -> Ok F ρ O σ' -> Q b σ'.s) : F.W t Q σ.s :=
  wpAny_mono h (fun v s' ⟨⟨e1,Φ',w⟩,e⟩ => e1 ▸ k ⟨Φ',s'⟩ w (a.next (σ' := ⟨Φ',s'⟩) w e)) fun _ _ q => q
theorem GoT.on {t : Sem Bool} {b : Bool} (w : Sp F.c σ σ') (h : GoT F σ' t b) : F.W t (fun v s' => (v = b /\ ∃ Φ',Wd F.c NoX σ.Φ σ.s Φ' s') /\ 0 < s'.toks) σ'.s :=
  wpAny_mono h (fun _ _ ⟨⟨e,Φ',w'⟩,t⟩ => ⟨⟨e,Φ',Wd.then w w'⟩,t⟩) fun _ _ q => q
theorem GoT.done {b : Bool} {Q : Bool -> Prop} (w : Sp F.c σ σ') (a : Ok F ρ O σ') : (fun v (s' : Shared) => (v = b /\ ∃ Φ',Wd F.c NoX σ.Φ σ.s Φ' s') /\ 0 < s'.toks) b σ'.s := ⟨⟨rfl,_,w⟩,a.t⟩
theorem GoL.then {t : Sem (List Value)} {ds : List D} {Q : List Value -> Shared -> Prop} (a : Ok F ρ O σ) (h : GoL F O σ t ds) (k : ∀ v σ',Sp F.c σ σ' -> Rps F.c O σ σ' ds v -> Ok F ρ O σ' -> Q v σ'.s) : F.W t Q σ.s :=
  wpAny_mono h (fun v s' ⟨⟨Φ',w,r⟩,e⟩ => k v ⟨Φ',s'⟩ w r (a.next (σ' := ⟨Φ',s'⟩) w e)) fun _ _ q => q
theorem Sp.refl {c : Cx} (k : OkS c σ.Φ σ.s) : Sp c σ σ := Wd.refl k
end
noncomputable def plain (env : Env) (es : List Expr) : List (Bool × Sem Value) := es.map fun e => (false,eval e env)
noncomputable def SE (F : Fx) (e : Expr) (x : X) : Prop := ∀ ρ O σ d,Ok F ρ O σ -> evE F.ε x ρ = some d -> Go F O σ (eval e F.env) d
noncomputable def ST (F : Fx) (e : Expr) (x : X) : Prop := ∀ ρ O σ b,Ok F ρ O σ -> evT F.ε x ρ = some b -> GoT F σ (isTrue e F.env (eval e F.env)) b
noncomputable def SXs (F : Fx) (es : List Expr) (xs : Xs) : Prop := ∀ ρ O σ ds,Ok F ρ O σ -> evXs F.ε xs ρ = some ds -> GoL F O σ (spliced (plain F.env es)) ds
noncomputable def SA (F : Fx) (es : List Expr) (xs : Xs) : Prop := ∀ op ρ O σ b,Ok F ρ O σ -> evA F.ε op xs ρ = some b -> GoT F σ (allTrue op es F.env) b
noncomputable def SB (F : Fx) (es : List Expr) (xs : Xs) : Prop := ∀ op ρ O σ d pos,Ok F ρ O σ -> evB F.ε op xs ρ = some d -> Go F O σ (boolOp pos op (es.map fun e => eval e F.env)) d
section
variable {F : Fx}
theorem core_nil : SXs F [] .nil := fun ρ O σ ds a e => Option.some.inj e ▸ Calls.spliced_nil ⟨⟨σ.Φ,Wd.refl a.k,.nil⟩,a.t⟩
theorem RepDs.mem {c : Cx} {O : Ow} {Φ : Fz} {h h0 : Heap} {ds : List D} {vs : List Value} (r : RepDs c O h0 Φ h ds vs) {v : Value} (hv : v ∈ vs) : ∃ d,RepD c O h0 Φ h d v := by
  induction r with
  | nil => cases hv
  | cons r _ _ ih =>
    rcases List.mem_cons.mp hv with rfl | hv
    · exact ⟨_,r⟩
    · exact ih hv
theorem Rep.ref_some {Φ : Fz} : ∀ {d : V} {p : Addr},Rep Φ d (.ref p) -> ∃ o,Φ p = some o
  | _,_,.tup h _ => ⟨_,h⟩
  | _,_,.list h _ => ⟨_,h⟩
theorem apart_temp {ρ : Loc} {O : Ow} {σ σ1 σ2 : St} {d : D} {v : Value} {ds : List D} {vs : List Value} (a : Ok F ρ O σ) (w1 : Sp F.c σ σ1)
    (r1 : Rp F.c O σ σ1 d v) (w2 : Sp F.c σ1 σ2) (r2 : Rps F.c O σ1 σ2 ds vs) : ∀ l,d = .t l -> v ∉ vs := fun l e hv => by
  subst e
  obtain ⟨p,ws,rfl,⟨m,h1⟩,h2,h3,h4,h5⟩ := r1
  obtain ⟨d',r'⟩ := RepDs.mem r2 hv
  have hst : σ2.Φ p = none := Wd.stays w2 h1 h3 id
  cases d' with
  | v z => obtain ⟨o,e⟩ := Rep.ref_some r'; rw [hst] at e; cases e
  | t l => obtain ⟨q,us,e1,e2,e3,e4,e5,e6⟩ := r'; cases e1; rw [h1] at e6; cases e6
  | o i l =>
    obtain ⟨q,us,e1,e2,e3,e4,e5⟩ := r'
    cases e1
    obtain ⟨⟨o,eo⟩,_⟩ := a.fr.own p i e4
    rw [eo] at h5; cases h5
theorem core_cons {e : Expr} {es : List Expr} {x : X} {xs : Xs} (hx : SE F e x) (hxs : SXs F es xs) : SXs F (e :: es) (.cons x xs) := fun ρ O σ ds a h =>
  bindE h fun d e1 h => bindE h fun ds' e2 h => Option.some.inj h ▸
    Calls.spliced_cons ((hx ρ O σ d a e1).then a fun v σ1 w1 r1 a1 => (hxs ρ O σ1 ds' a1 e2).then a1 fun vs σ2 w2 r2 a2 =>
      ⟨⟨σ2.Φ,w1.to w2,.cons (r1.up w2) (RepDs.base r2 (Wd.up w1)) (apart_temp a w1 r1 w2 r2)⟩,a2.t⟩)
theorem core_lit_none {k : Nat} {pos : Pos} : SE F (.Constant .none k pos) (.lit .none) := fun ρ O σ d a h => Option.some.inj h ▸ .mk a (wpAny_Constant_none (post_none a.k (tk:=σ.s.toks)))
theorem core_lit_bool {b : Bool} {k : Nat} {pos : Pos} : SE F (.Constant (.bool b) k pos) (.lit (.bool b)) := fun ρ O σ d a h => Option.some.inj h ▸ .mk a (wpAny_Constant_bool (post_bool a.k (tk:=σ.s.toks)))
theorem core_lit_int {b : Int} {k : Nat} {pos : Pos} : SE F (.Constant (.int b) k pos) (.lit (.int b)) := fun ρ O σ d a h => Option.some.inj h ▸ .mk a (wpAny_Constant_int (post_int a.k))
theorem core_lit_str {b : Str} {k : Nat} {pos : Pos} : SE F (.Constant (.str b) k pos) (.lit (.str b)) := fun ρ O σ d a h => Option.some.inj h ▸ .mk a (wpAny_Constant_str (post_str a.k))
structure IsVar (F : Fx) (i : Nat) (x : Str) : Prop where
  at_ : F.τ.nm[i]? = some x
  k : F.K x = some .local ∨ F.K x = some .cell ∨ F.K x = some .free
  d : (x == ("__debug__" : Str)) = false
  c : (x == ("__classdict__" : Str)) = false
structure IsGlob (F : Fx) (x : Str) : Prop where
  k : F.K x = some .globalImplicit
  d : (x == ("__debug__" : Str)) = false
theorem cell_at {ρ : Loc} {O : Ow} {σ : St} {i : Nat} {x : Str} {d : D} {P : Prop} (a : Ok F ρ O σ) (h1 : F.τ.nm[i]? = some x) (hk : F.env.kindOf x = some .cell ∨ F.env.kindOf x = some .free) (e : ρ[i]? = some (some d))
    (h : ∀ cl v,F.env.cells.lookup x = some cl -> σ.s.heap.IsCell cl (some v) -> Rp F.c O σ σ d v -> Var i d -> P) : P :=
  let ⟨cl,hcl⟩ := a.fr.has x hk
  let ⟨v,hc,hm⟩ := a.fr.cell x cl hcl
  let ⟨w,ew,p2,p3⟩ := hm hk i d h1 e
  h cl w hcl (ew ▸ hc) p2 p3
theorem load_var {ρ : Loc} {O : Ow} {σ : St} {i : Nat} {x : Str} {d : D} {Q : Value -> Shared -> Prop} (a : Ok F ρ O σ) (hv : IsVar F i x) (e : ρ[i]? = some (some d))
    (h : ∀ v,Rp F.c O σ σ d v -> Var i d -> Q v σ.s) : F.W (loadName F.env x) Q σ.s := by
  have h2 := hv.k
  rw [<- a.K] at h2
  rcases h2 with h2 | h2 | h2
  · obtain ⟨m,hn,hm⟩ := a.fr.ns
    obtain ⟨v,p1,p2,p3⟩ := hm i x d hv.at_ h2 e
    exact wpAny_loadName_local a.fr.kind h2 hn p1 (h v p2 p3)
  · exact cell_at a hv.at_ (.inl h2) e fun cl v hcl hc p2 p3 => wpAny_loadName_cell a.fr.kind h2 hcl hc (h v p2 p3)
  · exact cell_at a hv.at_ (.inr h2) e fun cl v hcl hc p2 p3 => wpAny_loadName_free a.fr.kind h2 hcl hc (h v p2 p3) hv.c
theorem core_var {i : Nat} {x : Str} {pos : Pos} (hv : IsVar F i x) : SE F (.Name x pos) (.var i) := fun ρ O σ d a h =>
  bindE h fun q e1 e2 => .mk a (wpAny_Name (load_var a hv (e1.trans (congrArg some e2)) fun v r _ => ⟨σ.Φ,Wd.refl a.k,r⟩) hv.d)
theorem OkS.keep {c : Cx} {Φ : Fz} {s : Shared} (k : OkS c Φ s) : ∀ b o,c.b0.get? b = some o -> s.heap.get? b = some o := fun b o q => k.inn b o (k.base b o q)
theorem load_mg {ρ : Loc} {O : Ow} {σ : St} {x : Str} {pos : Pos} {v : Value} {Q : Value -> Shared -> Prop} (a : Ok F ρ O σ) (hg : IsGlob F x) (e : F.c.mg x = some v) (h : Q v σ.s) : F.W (eval (.Name x pos) F.env) Q σ.s :=
  Calls.Name_function_global a.fr.kind ((a.K x).trans hg.k) (Calls.loadGlobal_global (mg:=F.c.mg) (a.fr.glb ▸ F.c.g.keeps a.k.keep) e h) hg.d
theorem load_mb {ρ : Loc} {O : Ow} {σ : St} {x : Str} {pos : Pos} {v : Value} {Q : Value -> Shared -> Prop} (a : Ok F ρ O σ) (hg : IsGlob F x) (e0 : F.c.mg x = none) (e : F.c.mb x = some v) (h : Q v σ.s) : F.W (eval (.Name x pos) F.env) Q σ.s :=
  Calls.Name_function_global a.fr.kind ((a.K x).trans hg.k) (Calls.loadGlobal_builtin (mg:=F.c.mg) (mb:=F.c.mb) (a.fr.glb ▸ F.c.g.keeps a.k.keep) e0 (a.fr.blt ▸ F.c.b.keeps a.k.keep) e h) hg.d
theorem core_gl (G : Gd F.c F.τ F.ε F.n) {i : Nat} {x : Str} {pos : Pos} (e0 : F.τ.gn[i]? = some x) (hg : IsGlob F x) : SE F (.Name x pos) (.gl i) := fun ρ O σ d a h =>
  mapE h fun v e1 e2 => e2 ▸ let ⟨val,p1,p2⟩ := G.gv i x v e0 e1; .mk a (load_mg a hg p1 ⟨σ.Φ,Wd.refl a.k,p2 σ.Φ⟩)
theorem core_bin {l r : Expr} {op : Operator} {pos : Pos} {x y : X} (hx : SE F l x) (hy : SE F r y) : SE F (.BinOp l op r pos) (.bin op x y) := fun ρ O σ d a h =>
  bindE h fun d1 e1 h => bindE h fun d2 e2 h =>
  .mk a (wpAny_BinOp ((hx ρ O σ d1 a e1).then a fun v σ1 w1 r1 a1 => (hy ρ O σ1 d2 a1 e2).then a1 fun u σ2 w2 r2 a2 => Go.on (w1.to w2) (op_bin a2.k (r1.up w2) r2 h)))
theorem core_neg {e : Expr} {pos : Pos} {x : X} (hx : SE F e x) : SE F (.UnaryOp .USub e pos) (.neg x) := fun ρ O σ d a h =>
  bindE h fun d1 e1 h => bindE h fun i e2 h => Option.some.inj h ▸
  .mk a (wpAny_UnaryOp ((hx ρ O σ d1 a e1).then a fun v σ1 w1 r1 a1 => r1.int e2 (P:=fun v => F.W (unaryOp .USub v) _ _) fun t => neg_int (PostD.of w1 (post_int a1.k))))
theorem core_inv {e : Expr} {pos : Pos} {x : X} (hx : SE F e x) : SE F (.UnaryOp .Invert e pos) (.inv x) := fun ρ O σ d a h =>
  bindE h fun d1 e1 h => bindE h fun i e2 h => Option.some.inj h ▸
  .mk a (wpAny_UnaryOp ((hx ρ O σ d1 a e1).then a fun v σ1 w1 r1 a1 => r1.int e2 (P:=fun v => F.W (unaryOp .Invert v) _ _) fun t => invert_int (PostD.of w1 (post_int a1.k))))
theorem core_ite {e1 e2 e3 : Expr} {pos : Pos} {t x y : X} (ht : ST F e1 t) (hx : SE F e2 x) (hy : SE F e3 y) : SE F (.IfExp e1 e2 e3 pos) (.ite t x y) := fun ρ O σ d a h =>
  bindE h fun b e1 h => wpAny_IfExp ((ht ρ O σ b a e1).then a fun σ1 w1 a1 =>
    match b,h with
    | true,h => Go.on' w1 (hx ρ O σ1 d a1 h)
    | false,h => Go.on' w1 (hy ρ O σ1 d a1 h))
theorem core_cmp {l r : Expr} {op : CmpOp} {pos : Pos} {x y : X} (hx : SE F l x) (hy : SE F r y) (hs : behindInMarks op r = false) : SE F (.Compare l [op] [r] pos) (.cmp op x y) := fun ρ O σ d a h =>
  bindE h fun d1 e1 h => bindE h fun d2 e2 h => mapE h fun b e3 h => h ▸
  .mk a (wpAny_Compare1 ((hx ρ O σ d1 a e1).then a fun v σ1 w1 r1 a1 => (hy ρ O σ1 d2 a1 e2).then a1 fun u σ2 w2 r2 a2 =>
    wpAny_mono (op_cmp a2.k a.R (r1.up w2) r2 e3) (fun z s3 ⟨e,w3⟩ => ⟨σ2.Φ,Wd.then (w1.to w2) w3,e ▸ .bool _⟩) fun _ _ q => q) hs)
theorem core_cmpT {l r : Expr} {op : CmpOp} {pos : Pos} {x y : X} (hx : SE F l x) (hy : SE F r y) (hs : behindInMarks op r = false) : ST F (.Compare l [op] [r] pos) (.cmp op x y) := fun ρ O σ b a h =>
  bindE h fun d1 e1 h => bindE h fun d2 e2 e3 =>
  withToks a.t (wpAny_isTrue_Compare1 ((hx ρ O σ d1 a e1).then a fun v σ1 w1 r1 a1 => (hy ρ O σ1 d2 a1 e2).then a1 fun u σ2 w2 r2 a2 =>
    wpAny_mono (op_cmp a2.k a.R (r1.up w2) r2 e3) (fun z s3 ⟨e,w3⟩ => e ▸ wpAny_truthy_bool ⟨rfl,σ2.Φ,Wd.then (w1.to w2) w3⟩) fun _ _ q => q) hs)
end
end
section
set_option genInjectivity false
set_option genSizeOfSpec false
section
variable {F : Fx}
theorem core_A_nil : SA F [] .nil := fun op ρ O σ b a h =>
  match op,h with
  | .And,h => Option.some.inj h ▸ wpAny_allTrue_And_nil ⟨⟨rfl,σ.Φ,Wd.refl a.k⟩,a.t⟩
  | .Or,h => Option.some.inj h ▸ wpAny_allTrue_Or_nil ⟨⟨rfl,σ.Φ,Wd.refl a.k⟩,a.t⟩
theorem core_A_cons {e : Expr} {es : List Expr} {x : X} {xs : Xs} (hx : ST F e x) (hxs : SA F es xs) : SA F (e :: es) (.cons x xs) := fun op ρ O σ b a h =>
  bindE h fun t e1 h =>
    match op,t,h,e1 with
    | .And,true,h,e1 => wpAny_allTrue_And_cons ((hx ρ O σ true a e1).then a fun σ1 w1 a1 => GoT.on w1 (hxs .And ρ O σ1 b a1 h))
    | .And,false,h,e1 => wpAny_allTrue_And_cons ((hx ρ O σ false a e1).then a fun σ1 w1 a1 => ⟨⟨Option.some.inj h,σ1.Φ,w1⟩,a1.t⟩)
    | .Or,false,h,e1 => wpAny_allTrue_Or_cons ((hx ρ O σ false a e1).then a fun σ1 w1 a1 => GoT.on w1 (hxs .Or ρ O σ1 b a1 h))
    | .Or,true,h,e1 => wpAny_allTrue_Or_cons ((hx ρ O σ true a e1).then a fun σ1 w1 a1 => ⟨⟨Option.some.inj h,σ1.Φ,w1⟩,a1.t⟩)
theorem core_B_one {e : Expr} {x : X} (hx : SE F e x) : SB F [e] (.cons x .nil) := fun op ρ O σ d pos a h =>
  bindE h fun d1 e1 h => hx ρ O σ d a (e1.trans h)
theorem truth_to {ρ : Loc} {O : Ow} {σ σ1 : St} {d : D} {v : Value} {b : Bool} {Q : Bool -> Shared -> Prop} (a1 : Ok F ρ O σ1) (r : Rp F.c O σ σ1 d v) (e : truth d = some b) (k : ∀ σ2,Sp F.c σ1 σ2 -> Ok F ρ O σ2 -> Q b σ2.s) : F.W (truthy v) Q σ1.s :=
  wpAny_mono (withToks a1.t (op_truth a1.k r e)) (fun b s2 ⟨⟨q,w⟩,t⟩ => q ▸ k ⟨σ1.Φ,s2⟩ w (a1.next (σ' := ⟨σ1.Φ,s2⟩) w t)) fun _ _ q => q
theorem core_B_cons {e e2 : Expr} {es : List Expr} {x y : X} {ys : Xs} (hx : SE F e x) (hxs : SB F (e2 :: es) (.cons y ys)) : SB F (e :: e2 :: es) (.cons x (.cons y ys)) := fun op ρ O σ d pos a h =>
  bindE h fun d1 e1 h => bindE h fun t e2 h => by
    refine wpAny_bind (m:=eval e F.env) ((hx ρ O σ d1 a e1).then a fun v σ1 w1 r1 a1 => ?_)
    refine wpAny_bind (wpAny_standAt (wpAny_bind (wpAny_holding (truth_to a1 r1 e2 fun σ2 w2 a2 => ?_))))
    exact match op,t,h with
      | .And,true,h => Go.on' (w1.to w2) (hxs .And ρ O σ2 d pos a2 h)
      | .Or,false,h => Go.on' (w1.to w2) (hxs .Or ρ O σ2 d pos a2 h)
      | .And,false,h => wpAny_pure (Option.some.inj h ▸ ⟨⟨σ2.Φ,w1.to w2,r1.up w2⟩,a2.t⟩)
      | .Or,true,h => wpAny_pure (Option.some.inj h ▸ ⟨⟨σ2.Φ,w1.to w2,r1.up w2⟩,a2.t⟩)
theorem core_bop {op : BoolOp} {es : List Expr} {pos : Pos} {xs : Xs} (he : ∀ env,evalEach es env = es.map fun e => eval e env) (h1 : SB F es xs) : SE F (.BoolOp op es pos) (.bop op xs) := fun ρ O σ d a h => by
  show F.W (boolOp _ _ (evalEach _ F.env)) _ _
  rw [he]
  exact h1 op ρ O σ d _ a h
theorem core_bopT {op : BoolOp} {es : List Expr} {pos : Pos} {xs : Xs} (h1 : SA F es xs) : ST F (.BoolOp op es pos) (.bop op xs) := fun ρ O σ b a h => wpAny_isTrue_BoolOp (h1 op ρ O σ b a h)
theorem core_notT {e : Expr} {pos : Pos} {x : X} (hx : ST F e x) : ST F (.UnaryOp .Not e pos) (.not x) := fun ρ O σ b a h =>
  mapE h fun b' e1 h => isTrue_not ((hx ρ O σ b' a e1).then a fun σ1 w1 a1 => ⟨⟨h,σ1.Φ,w1⟩,a1.t⟩)
theorem core_iteT {e1 e2 e3 : Expr} {pos : Pos} {t x y : X} (ht : ST F e1 t) (hx : ST F e2 x) (hy : ST F e3 y) : ST F (.IfExp e1 e2 e3 pos) (.ite t x y) := fun ρ O σ b a h =>
  bindE h fun c e1 h => isTrue_IfExp ((ht ρ O σ c a e1).then a fun σ1 w1 a1 =>
    match c,h with
    | true,h => GoT.on w1 (hx ρ O σ1 b a1 h)
    | false,h => GoT.on w1 (hy ρ O σ1 b a1 h))
noncomputable def plainTest (e : Expr) : Prop := ∀ env whole,isTrue e env whole = (do let v <- whole; standAt e.pos; holding [v] (truthy v))
theorem core_test {e : Expr} {x : X} (hx : SE F e x) (hp : plainTest e) (hev : ∀ ρ,evT F.ε x ρ = (evE F.ε x ρ).bind truth) : ST F e x := fun ρ O σ b a h =>
  bindE ((hev ρ).symm.trans h) fun d e1 e2 => wpAny_isTrue_value ((hx ρ O σ d a e1).then a fun v σ1 w1 r1 a1 => truth_to a1 r1 e2 fun σ2 w2 a2 => ⟨⟨rfl,σ2.Φ,w1.to w2⟩,a2.t⟩) (hp F.env _)
theorem core_testNone {e : Expr} {x : X} (h0 : ∀ ρ,evT F.ε x ρ = none) : ST F e x := fun ρ O σ b a h => noneE ((h0 ρ).symm.trans h)
theorem bind_bind2 {α β γ δ : Type} (o : Option α) (p : Option β) (f : α -> β -> Option γ) (g : γ -> Option δ) : (o.bind fun a => p.bind fun b => (f a b).bind g) = (o.bind fun a => p.bind (f a)).bind g := by cases o <;> cases p <;> rfl
theorem evT_bin {op : Operator} {x y : X} (ρ : Loc) : evT F.ε (.bin op x y) ρ = (evE F.ε (.bin op x y) ρ).bind truth := bind_bind2 (evE F.ε x ρ) (evE F.ε y ρ) (binD op) truth
theorem evT_sub {x y : X} (ρ : Loc) : evT F.ε (.sub x y) ρ = (evE F.ε (.sub x y) ρ).bind truth := bind_bind2 (evE F.ε x ρ) (evE F.ε y ρ) subD truth
theorem evT_meth {m : Me} {x : X} {xs : Xs} (ρ : Loc) : evT F.ε (.meth m x xs) ρ = (evE F.ε (.meth m x xs) ρ).bind truth := bind_bind2 (evE F.ε x ρ) (evXs F.ε xs ρ) (meD m) truth
theorem map_bind {α β γ : Type} (o : Option α) (f : α -> β) (g : β -> Option γ) : (o.bind fun a => g (f a)) = (o.map f).bind g := by cases o <;> rfl
theorem evT_call {i : Nat} {xs : Xs} (ρ : Loc) : evT F.ε (.call i xs) ρ = (evE F.ε (.call i xs) ρ).bind truth := by
  show ((evXs F.ε xs ρ).bind fun ds => (fzs ds).bind fun vs => (F.ε.F i vs).bind fun d => truth (.v d)) = ((evXs F.ε xs ρ).bind fun ds => (fzs ds).bind fun vs => (F.ε.F i vs).map .v).bind truth
  cases evXs F.ε xs ρ with
  | none => rfl
  | some ds =>
    show ((fzs ds).bind fun vs => (F.ε.F i vs).bind fun d => truth (.v d)) = ((fzs ds).bind fun vs => (F.ε.F i vs).map .v).bind truth
    cases fzs ds with
    | none => rfl
    | some vs => exact map_bind _ _ _
theorem Fz.add_ne {Φ : Fz} {a b : Addr} {o : Obj} (h : b ≠ a) : Φ.add a o b = Φ b := if_neg h
theorem RepD.add {c : Cx} {O : Ow} {Φ : Fz} {h h0 : Heap} {d : D} {v : Value} {a : Addr} {o : Obj} (r : RepD c O h0 Φ h d v) (hn : Φ a = none) (hv : .ref a ≠ v) : RepD c O h0 (Φ.add a o) h d v := by
  cases d with
  | v d => exact Rep.mono (Fz.le_add hn) r
  | t l =>
    obtain ⟨b,ws,rfl,h1,h2,h3,h4⟩ := r
    exact ⟨b,ws,rfl,h1,h2.mono (Fz.le_add hn),(Fz.add_ne fun e => hv (congrArg _ e.symm)).trans h3,h4⟩
  | o i l => exact let ⟨b,ws,e,h1,h2,h3⟩ := r; ⟨b,ws,e,h1,h2.mono (Fz.le_add hn),h3⟩
theorem RepDs.add {c : Cx} {O : Ow} {Φ : Fz} {h h0 : Heap} {ds : List D} {vs : List Value} {a : Addr} {o : Obj} (r : RepDs c O h0 Φ h ds vs) (hn : Φ a = none) (hv : Value.ref a ∉ vs) : RepDs c O h0 (Φ.add a o) h ds vs := by
  induction r with
  | nil => exact .nil
  | cons r _ q ih => exact .cons (r.add hn fun e => hv (List.mem_cons.mpr (.inl e))) (ih fun h => hv (.tail _ h)) q
theorem freeze1 {c : Cx} {O : Ow} {σ σ' : St} {d : D} {v : Value} (w : Sp c σ σ') (r : Rp c O σ σ' d v) {z : V} (e : d.fz = some z) : ∃ Φ2,Sp c σ ⟨Φ2,σ'.s⟩ /\ σ'.Φ.le Φ2 /\ Rep Φ2 z v /\ ∀ b,σ'.Φ b = none -> v ≠ .ref b -> Φ2 b = none := by
  cases d with
  | v d => exact Option.some.inj e ▸ ⟨σ'.Φ,w,.refl _,r,fun _ e _ => e⟩
  | t l =>
    obtain ⟨a,vs,rfl,⟨n,h1⟩,h2,h3,h4,h5⟩ := r
    exact Option.some.inj e ▸ ⟨_,Wd.freeze w h1 h3 h4 (.inr h5),Fz.le_add h3,.list Fz.add_self (h2.mono (Fz.le_add h3)),fun b e hb => (Fz.add_ne fun q => hb (congrArg _ q.symm)).trans e⟩
  | o i l => cases e
theorem freezes {c : Cx} {O : Ow} {σ : St} {s' : Shared} {ds : List D} : ∀ {Φ' : Fz} {vs : List Value} {zs : List V},Wd c NoX σ.Φ σ.s Φ' s' -> RepDs c O σ.s.heap Φ' s'.heap ds vs -> fzs ds = some zs ->
    ∃ Φ2,Sp c σ ⟨Φ2,s'⟩ /\ Φ'.le Φ2 /\ Reps Φ2 zs vs := by
  induction ds with
  | nil => exact fun w r e => by cases r; exact Option.some.inj e ▸ ⟨_,w,.refl _,.nil⟩
  | cons d ds ih =>
    intro Φ' vs zs w r e
    cases r with
    | cons r rs hn =>
      refine bindE e fun z e1 e => bindE e fun zs' e2 e => Option.some.inj e ▸ ?_
      cases d with
      | v d => exact let ⟨Φ2,w2,l2,r2⟩ := ih w rs e2; ⟨Φ2,w2,l2,.cons (Option.some.inj e1 ▸ Rep.mono l2 r) r2⟩
      | t l =>
        obtain ⟨a,ws,rfl,⟨m,h1⟩,h2,h3,h4,h5⟩ := r
        obtain ⟨Φ2,w2,l2,r2⟩ := ih (w.freeze h1 h3 h4 (.inr h5)) (rs.add h3 (hn l rfl)) e2
        exact ⟨Φ2,w2,(Fz.le_add h3).trans l2,.cons (Option.some.inj e1 ▸ .list (l2 _ _ Fz.add_self) ((h2.mono (Fz.le_add h3)).mono l2)) r2⟩
      | o i l => cases e1
theorem backTo_plain {pos : Pos} {env : Env} : ∀ es : List Expr,backTo pos (plain env es) = plain env es
  | [] => rfl
  | e :: es => congrArg (List.cons _) (backTo_plain es)
noncomputable def NoStar (es : List Expr) : Prop := ∀ env,starEach es env = plain env es
theorem NoStar.back {es : List Expr} (h : NoStar es) (pos : Pos) (env : Env) : backTo pos (starEach es env) = plain env es := (congrArg (backTo pos) (h env)).trans (backTo_plain es)
theorem core_tup {es : List Expr} {k : Nat} {pos : Pos} {xs : Xs} (hs : NoStar es) (hx : SXs F es xs) : SE F (.Tuple es k pos) (.tup xs) := fun ρ O σ d a h =>
  bindE h fun ds e1 h => bindE h fun zs e2 h => iteE h fun hl h => Option.some.inj h ▸
  .mk a (wpAny_Tuple_spliced (hs.back _ _ ▸ (hx ρ O σ ds a e1).then a fun vs σ1 w1 r1 a1 =>
    let ⟨Φ2,w2,_,r2⟩ := freezes w1 r1 e2; ⟨r2.length ▸ lim_line hl,PostD.of w2 (post_tup (Wd.ok w2) r2)⟩))
theorem core_lst {es : List Expr} {pos : Pos} {xs : Xs} (hs : NoStar es) (hx : SXs F es xs) : SE F (.List es pos) (.lst xs) := fun ρ O σ d a h =>
  bindE h fun ds e1 h => bindE h fun zs e2 h => iteE h fun hl h => Option.some.inj h ▸
  .mk a (wpAny_List_spliced (hs.back _ _ ▸ (hx ρ O σ ds a e1).then a fun vs σ1 w1 r1 a1 =>
    let ⟨Φ2,w2,_,r2⟩ := freezes w1 r1 e2; ⟨r2.length ▸ lim_line hl,PostD.of w2 (post_list (Wd.ok w2) r2)⟩))
noncomputable def NotSl (e : Expr) : Prop := ∀ o i,subscripted e false o i = operate [o,i] (getItem o i)
theorem core_sub {l r : Expr} {pos : Pos} {x y : X} (hx : SE F l x) (hy : SE F r y) (hs : NotSl r) : SE F (.Subscript l r pos) (.sub x y) := fun ρ O σ d a h =>
  bindE h fun d1 e1 h => bindE h fun d2 e2 h =>
  .mk a (Subscript_ ((hx ρ O σ d1 a e1).then a fun v σ1 w1 r1 a1 => (hy ρ O σ1 d2 a1 e2).then a1 fun u σ2 w2 r2 a2 => Go.on (w1.to w2) (op_sub a2.k (r1.up w2) r2 h (hs _ _))))
noncomputable def SP (F : Fx) (oe : Option Expr) (x : X) : Prop := ∀ ρ O σ d,Ok F ρ O σ -> evE F.ε x ρ = some d -> Go F O σ (evalPart oe F.env) d
theorem part_none : SP F none .no := fun ρ O σ d a h => Option.some.inj h ▸ evalPart_none F.env ▸ wpAny_pure ⟨post_none a.k (tk:=σ.s.toks),a.t⟩
theorem part_some {e : Expr} {x : X} (hx : SE F e x) : SP F (some e) x := fun ρ O σ d a h => evalPart_some e F.env ▸ hx ρ O σ d a h
theorem core_slc {e : Expr} {l u t : Option Expr} {pos p : Pos} {x lo hi st : X} (hx : SE F e x) (hl : SP F l lo) (hh : SP F u hi) (hs : SP F t st) : SE F (.Subscript e (.Slice l u t p) pos) (.slc x lo hi st) := fun ρ O σ d a h =>
  bindE h fun d1 e1 h => bindE h fun d2 e2 h => bindE h fun d3 e3 h => bindE h fun d4 e4 h =>
  .mk a (Subscript_ ((hx ρ O σ d1 a e1).then a fun v σ1 w1 r1 a1 => wpAny_Slice ((hl ρ O σ1 d2 a1 e2).then a1 fun v2 σ2 w2 r2 a2 => (hh ρ O σ2 d3 a2 e3).then a2 fun v3 σ3 w3 r3 a3 => (hs ρ O σ3 d4 a3 e4).then a3 fun v4 σ4 w4 r4 a4 =>
    wpAny_mono (op_slc (h2:=σ1.s.heap) a4.k (r1.up (w2.to (w3.to w4))) (r2.up (w3.to w4)) ((r3.up w4).down w2) (r4.down (w2.to w3)) h (match t with | none => ⟨_,rfl⟩ | some _ => ⟨_,rfl⟩)) (fun _ _ h => PostD.of (w1.to (w2.to (w3.to w4))) h) fun _ _ q => q)))
theorem evalArgs_any {es : List Expr} {f : Value} {s : Shared} {Q : Args -> Shared -> Prop} (h : F.W (spliced (plain F.env es)) (fun vs s' => Q ⟨vs,[]⟩ s') s) : F.W (evalArgs f true (plain F.env es) []) Q s := by
  cases es with
  | nil =>
    unfold evalArgs
    show wpAny _ _ (spliced [] >>= _) Q _ s
    refine wpAny_bind (wpAny_mono (h : F.W (spliced []) (fun vs s' => Q ⟨vs,[]⟩ s') s) (fun vs s' h' => ?_) fun _ _ x => x)
    exact wpAny_bind (wpAny_pure (wpAny_holding (wpAny_bind (wpAny_pure (wpAny_bind (wpAny_pure (wpAny_pure h')))))))
  | cons e r => exact Calls.evalArgs_plain h
theorem plain_any (env : Env) : ∀ es : List Expr,(plain env es).any (·.1) = false
  | [] => rfl
  | e :: r => plain_any env r
theorem core_call (G : Gd F.c F.τ F.ε F.n) {f : Nat} {id : Str} {args : List Expr} {p pos : Pos} {xs : Xs} (e0 : F.τ.fn[f]? = some id) (hg : IsGlob F id) (hs : NoStar args) (hx : SXs F args xs) : SE F (.Call (.Name id p) args [] pos) (.call f xs) := fun ρ O σ d a h =>
  bindE h fun ds e1 h => bindE h fun vs e2 h => mapE h fun z e3 h => h ▸
  let ⟨fa,o,fd,p1,p2,p3⟩ := G.fn f id e0
  .mk a (PyProof.Rows.Call_Name (hs.back _ _) (load_mg a hg p1 (Calls.callWith_function (o:=o) (fd:=fd) (evalArgs_any ((hx ρ O σ ds a e1).then a fun us σ1 w1 r1 a1 =>
    let ⟨Φ2,w2,_,r2⟩ := freezes w1 r1 e2
    ⟨⟨(Wd.ok w2).keep _ _ p2,p3⟩,wpAny_mono (G.call f id fa vs z e0 p1 e3 F.A Φ2 σ1.s us a.R (Wd.ok w2) a1.t r2) (fun v s2 ⟨Φ3,w3,r3⟩ => ⟨Φ3,Wd.then w2 w3,r3⟩) fun _ _ q => q⟩)))))
theorem core_bi (G : Gd F.c F.τ F.ε F.n) {b : Bi} {args : List Expr} {p pos : Pos} {xs : Xs} (hg : IsGlob F (biName b)) (hs : NoStar args) (hx : SXs F args xs) : SE F (.Call (.Name (biName b) p) args [] pos) (.bi b xs) := fun ρ O σ d a h =>
  bindE h fun ds e1 h =>
  let ⟨p1,p2⟩ := G.bi b (fun q => by subst q; cases h) (fun q => by subst q; cases h)
  .mk a (PyProof.Rows.Call_Name (hs.back _ _) (load_mb a hg p1 p2 (Calls.callWith_builtin (plain_any _ _) (evalArgs_any ((hx ρ O σ ds a e1).then a fun us σ1 w1 r1 a1 => Go.on w1 (op_bi a1.k a.R r1 h))))))
noncomputable def meT : Me -> String
  | .split | .join | .startswith | .endswith | .find => "str"
  | .bitLength => "int"
  | .count => "list"
theorem me_facts (m : Me) : PlainAttrs (meT m) /\ Slot (meT m) (meName m) (meId m) /\ typeOf (.builtin (meId m)) = pure (.type "method_descriptor") := by
  cases m
  · exact ⟨PySem.F.plainAttrs_str,PySem.F.slot_str_split,PySem.F.type_str_split⟩
  · exact ⟨PySem.F.plainAttrs_str,PySem.F.slot_str_join,PySem.F.type_str_join⟩
  · exact ⟨PySem.F.plainAttrs_int,PySem.F.slot_int_bit_length,PySem.F.type_int_bit_length⟩
  · exact ⟨PySem.F.plainAttrs_str,PySem.F.slot_str_startswith,PySem.F.type_str_startswith⟩
  · exact ⟨PySem.F.plainAttrs_str,PySem.F.slot_str_endswith,PySem.F.type_str_endswith⟩
  · exact ⟨PySem.F.plainAttrs_str,PySem.F.slot_str_find,PySem.F.type_str_find⟩
  · exact ⟨PySem.F.plainAttrs_list,PySem.F.slot_list_count,PySem.F.type_list_count⟩
end
end
section
set_option genInjectivity false
set_option genSizeOfSpec false
section
variable {F : Fx}
theorem plain_all (env : Env) : ∀ es : List Expr,(plain env es).all (fun x => !x.1) = true
  | [] => rfl
  | e :: r => plain_all env r
theorem few {pos : Pos} {args : List Expr} {env : Env} (h : NoStar args) (hl : args.length < 20) :
    ((backTo pos (starEach args env)).all (fun x => !x.1) && (backToKw pos (keywordEach [] env)).all (fun x => x.1.isSome)
      && decide (args.length + ([] : List Keyword).length + (if ([] : List Keyword).isEmpty then 0 else 1) < 30)) = true := by
  rw [h.back,plain_all]
  exact decide_eq_true (Nat.lt_of_lt_of_le hl (by decide))
theorem str_split {d : D} {ds : List D} {z : D} (h : splitD d ds = some z) : ∃ x,d = .v (.str x) := oneE h fun b _ h => bindE h fun x ex _ => ⟨x,D.strE ex⟩
theorem str_join {d : D} {ds : List D} {z : D} (h : joinD d ds = some z) : ∃ x,d = .v (.str x) := oneE h fun b _ h => bindE h fun x ex _ => ⟨x,D.strE ex⟩
theorem str_starts {d : D} {ds : List D} {z : D} (h : startsD d ds = some z) : ∃ x,d = .v (.str x) := oneE h fun b _ h => bindE h fun x ex _ => ⟨x,D.strE ex⟩
theorem str_ends {d : D} {ds : List D} {z : D} (h : endsD d ds = some z) : ∃ x,d = .v (.str x) := oneE h fun b _ h => bindE h fun x ex _ => ⟨x,D.strE ex⟩
theorem str_find {d : D} {ds : List D} {z : D} (h : findD d ds = some z) : ∃ x,d = .v (.str x) := threeE h fun _ _ _ _ h => bindE h fun x ex _ => ⟨x,D.strE ex⟩
theorem int_bits {d : D} {ds : List D} {z : D} (h : bitsD d ds = some z) : ∃ x,d = .v (.int x) := bindE h fun x ex _ => ⟨x,D.intE ex⟩
theorem list_count {d : D} {ds : List D} {z : D} (h : countD d ds = some z) : ∃ l,d.listOnly = some l := oneE h fun b _ h => bindE h fun k _ h => bindE h fun l el _ => ⟨l,el⟩
theorem Rp.list_obj {c : Cx} {O : Ow} {σ σ' : St} {d : D} {v : Value} (k : OkS c σ'.Φ σ'.s) (r : Rp c O σ σ' d v) {l : List V} (e : d.listOnly = some l) :
    ∃ a vs n,v = .ref a /\ σ'.s.heap.get? a = some { cls := .type "list",data := .seq vs n } := by
  cases d with
  | v d => cases d with
    | list m => obtain ⟨a,vs,n,rfl,h1,h2⟩ := Rep.list_pl r; exact ⟨a,vs,n,rfl,k.inn _ _ h1⟩
    | none => exact noneE e
    | bool => exact noneE e
    | int => exact noneE e
    | str => exact noneE e
    | tup => exact noneE e
  | t l => obtain ⟨a,vs,rfl,⟨n,h1⟩,_⟩ := r; exact ⟨a,_,n,rfl,h1⟩
  | o i l => obtain ⟨a,vs,rfl,⟨n,h1⟩,_⟩ := r; exact ⟨a,_,n,rfl,h1⟩
theorem method_str {O : Ow} {σ σ1 : St} {d : D} {v : Value} {m : Me} {pos : Pos} {trees : List (Bool × Sem Value)} {Q : Value -> Shared -> Prop} (hm : meT m = "str") (r : Rp F.c O σ σ1 d v) (e : ∃ x,d = .v (.str x)) (go : F.W (callWith pos (.builtin (meId m)) [v] trees []) Q σ1.s) :
    MethodOn F.c.prog F.c.w F.A (meName m) pos v trees Q NoE σ1.s := by
  obtain ⟨x,rfl⟩ := e
  obtain ⟨t,rfl⟩ := Rep.str_inv r
  obtain ⟨f1,f2,f3⟩ := me_facts m
  exact ⟨meT m,meId m,f1,f2,f3,hm ▸ typeIs_str _ _ _,(fun _ e => nomatch e),go⟩
theorem me_on {O : Ow} {σ σ1 : St} {d z : D} {v : Value} {m : Me} {ds : List D} {pos : Pos} {trees : List (Bool × Sem Value)} {Q : Value -> Shared -> Prop} (k : OkS F.c σ1.Φ σ1.s) (r : Rp F.c O σ σ1 d v) (e : meD m d ds = some z) (go : F.W (callWith pos (.builtin (meId m)) [v] trees []) Q σ1.s) :
    MethodOn F.c.prog F.c.w F.A (meName m) pos v trees Q NoE σ1.s := by
  cases m with
  | split => exact method_str rfl r (str_split e) go
  | join => exact method_str rfl r (str_join e) go
  | startswith => exact method_str rfl r (str_starts e) go
  | endswith => exact method_str rfl r (str_ends e) go
  | find => exact method_str rfl r (str_find e) go
  | bitLength =>
    obtain ⟨x,rfl⟩ := int_bits e
    obtain ⟨t,rfl⟩ := Rep.int_inv r
    obtain ⟨f1,f2,f3⟩ := me_facts .bitLength
    exact ⟨_,_,f1,f2,f3,typeIs_int _ _ _,(fun _ e => nomatch e),go⟩
  | count =>
    obtain ⟨l,q⟩ := list_count e
    obtain ⟨a,vs,n,rfl,q3⟩ := r.list_obj k q
    obtain ⟨f1,f2,f3⟩ := me_facts .count
    exact ⟨_,_,f1,f2,f3,⟨_,q3,rfl⟩,(fun _ e => by cases e; exact ⟨_,q3,rfl⟩),go⟩
noncomputable def AttrB (o : Expr) : Prop := ∀ name env,attributeBase o name env (eval o env) = eval o env
theorem core_meth {m : Me} {o : Expr} {apos pos : Pos} {args : List Expr} {x : X} {xs : Xs} (hb : AttrB o) (hp : (apos.endLine == pos.line) = true) (hl : args.length < 20) (hs : NoStar args) (hx : SE F o x) (hxs : SXs F args xs) : SE F (.Call (.Attribute o (meName m) apos) args [] pos) (.meth m x xs) := fun ρ O σ d a h =>
  bindE h fun d1 e1 h => bindE h fun ds e2 h =>
  .mk a (wpAny_Call_method_late (hb _ _) (few hs hl) hp (hs.back _ _) ((hx ρ O σ d1 a e1).then a fun v σ1 w1 r1 a1 => me_on a1.k r1 h
    (Calls.callWith_builtin (plain_any _ _) (evalArgs_any ((hxs ρ O σ1 ds a1 e2).then a1 fun us σ2 w2 r2 a2 => Go.on (w1.to w2) (op_me a2.k a.R (r1.up w2) r2 h))))))
theorem core_rep {o : Expr} {apos pos p1 p2 : Pos} {k1 k2 : Nat} {y z : Str} {x : X} (hb : AttrB o) (hp : (apos.endLine == pos.line) = true) (hx : SE F o x) :
    SE F (.Call (.Attribute o ("replace" : Str) apos) [.Constant (.str y) k1 p1,.Constant (.str z) k2 p2] [] pos) (.rep x y z) := fun ρ O σ d a h =>
  bindE h fun d1 e1 h => bindE h fun w e2 h => iteE h fun hl h => Option.some.inj h ▸ by
    have ht : NoStar [Expr.Constant (.str y) k1 p1,Expr.Constant (.str z) k2 p2] := fun _ => rfl
    refine .mk a (wpAny_Call_method_late (hb _ _) (few ht (show 2 < 20 by decide)) hp (ht.back _ _) ((hx ρ O σ d1 a e1).then a fun v σ1 w1 r1 a1 => r1.str e2 (P:=fun v => MethodOn F.c.prog F.c.w F.A _ _ v _ _ _ _) fun t => ?_))
    refine ⟨"str","str.replace",PySem.F.plainAttrs_str,PySem.F.slot_str_replace,PySem.F.type_str_replace,typeIs_str _ _ _,(fun _ e => nomatch e),?_⟩
    refine Calls.callWith_builtin (plain_any _ _) (evalArgs_any (Calls.spliced_cons (wpAny_Constant_str (Calls.spliced_cons (wpAny_Constant_str (Calls.spliced_nil ?_))))))
    refine SC.replace (Nat.ne_of_gt a1.t) (Nat.succ_ne_zero _) (Nat.ne_of_lt (Nat.lt_succ_self _)) (by simpa using hl.2.2.2) ?_ fun t' tk => PostD.of w1 (post_str a1.k)
    have h5 : (w.length + 1) * z.length ≤ 1001 * 1000 := Nat.mul_le_mul (Nat.succ_le_succ hl.1) hl.2.2.1
    omega
theorem core_flag (G : Gd F.c F.τ F.ε F.n) {apos pos p0 : Pos} {e1 e2 : Expr} {x y : X} (hg : IsGlob F F.τ.tn) (hp : (apos.endLine == pos.line) = true) (hs : NoStar [e1,e2]) (hx : SE F e1 x) (hy : SE F e2 y) :
    SE F (.Call (.Attribute (.Name F.τ.tn p0) ("get" : Str) apos) [e1,e2] [] pos) (.flag x y) := fun ρ O σ d a h =>
  bindE h fun d1 q1 h => bindE h fun d2 q2 h => bindE h fun i q3 h => bindE h fun z q4 h => Option.some.inj h ▸ by
    obtain ⟨dd,D,g1,g2,g3,g4,g5⟩ := G.tab
    obtain ⟨ob,b1,b2,b3⟩ := g4 σ.s.heap a.k.keep
    refine .mk a (wpAny_Call_method_late rfl (few hs (show 2 < 20 by decide)) hp (hs.back _ _) (load_mg a hg g1 ⟨"dict","dict.get",PySem.F.plainAttrs_dict,PySem.F.slot_dict_get,PySem.F.type_dict_get,⟨ob,b1,b3⟩,(fun _ e => by cases e; exact ⟨ob,b1,b2⟩),?_⟩))
    refine Calls.callWith_builtin (plain_any _ _) (evalArgs_any ?_)
    refine Calls.spliced_cons ((hx ρ O σ d1 a q1).then a fun v σ1 w1 r1 a1 => Calls.spliced_cons ((hy ρ O σ1 d2 a1 q2).then a1 fun u σ2 w2 r2 a2 => Calls.spliced_nil ?_))
    refine r1.int q3 (P:=fun v => F.W (call _ [_,v,u]) _ _) fun t => r2.str q4 (P:=fun u => F.W (call _ [_,_,u]) _ _) fun t' => ?_
    refine call_get2_intTab (g3 σ2.s.heap a2.k.keep) (PyProof.V.Flat.str z t') fun v hv => ?_
    rw [g5] at hv
    obtain ⟨t',rfl⟩ := hv.str_inv
    exact PostD.of (w1.to w2) (post_str a2.k)
end
end
section
set_option genInjectivity false
set_option genSizeOfSpec false
theorem all1 {α : Type} {P : α -> Prop} {x : α} (h : P x) : ∀ b ∈ [x],P b := List.forall_mem_cons.mpr ⟨h,fun _ h => nomatch h⟩
section
variable {prog : Program} {w : World} {A : Around} {E : Value -> Shared -> Prop} {s : Shared}
theorem draw_list {it t : Addr} {items : Array Value} (hne : t ≠ it) : ∀ (n i : Nat) (s : Shared) (Q : List Value -> Shared -> Prop),s.heap.IsListIter it t i -> s.heap.IsList t items -> i + n ≤ items.size ->
    (∀ h',h'.IsListIter it t (i + n) -> Heap.SameBut it s.heap h' -> Q (List.take n (List.drop i items.toList)) { s with heap := h' }) -> wpAny (model prog w) A (draw (.ref it) n) Q E s := by
  intro n
  induction n with
  | zero => exact fun i s Q hit ht hle h => wpAny_pure (by simpa using h s.heap hit (.refl ..))
  | succ n ih =>
    intro i s Q hit ht hle h
    have hi : i < items.size := Nat.lt_of_lt_of_le (Nat.lt_add_of_pos_right (Nat.succ_pos n)) hle
    have hle' : i + 1 + n ≤ items.size := by rw [Nat.add_right_comm,Nat.add_assoc]; exact hle
    rw [draw]
    refine wpAny_bind (wpAny_pyNext_list_item hit ht (x:=items[i]) (by simp [hi]) fun h1 hit1 hs1 => ?_)
    refine wpAny_bind (wpAny_holding (ih (i + 1) _ _ hit1 (ht.extBut hs1.extBut hne) hle' fun h2 hit2 hs2 => wpAny_pure ?_))
    have := h h2 (Nat.add_right_comm i 1 n ▸ hit2) (hs1.trans hs2)
    rwa [List.drop_eq_getElem_cons (by simpa using hi),List.take_succ_cons,Array.getElem_toList] at this
theorem unpackItems_list {t : Addr} {items : Array Value} {Q : List Value -> Shared -> Prop} (hh : A.handled = none) (ht : s.heap.IsList t items)
    (hQ : ∀ h',Heap.ExtBut s.heap.objs.size s.heap h' -> Q items.toList { s with heap := h' }) : wpAny (model prog w) A (unpackItems (.ref t) items.size none) Q E s := by
  have hlt : t ≠ s.heap.objs.size := by obtain ⟨o,ho,_⟩ := ht; exact Nat.ne_of_lt (Heap.lt_size ho)
  unfold unpackItems
  refine wpAny_bind ?_
  unfold notIterableAtAll
  refine wpAny_bind (wpAny_specialOf ht.typeIs slot_list_iter.lookup (wpAny_pure ?_))
  refine wpAny_bind (wpAny_holding (wpAny_pyIter_list ht ?_))
  refine wpAny_bind (wpAny_holding (draw_list hlt items.size 0 _ _ ⟨_,Heap.get?_push_size _ rfl,rfl,rfl⟩ (ht.push _) (Nat.le_of_eq (Nat.zero_add _)) fun h₁ hit₁ hs₁ => ?_))
  rw [List.drop_zero,List.take_of_length_le (Nat.le_of_eq Array.length_toList)]
  have hlen : items.toList.length = items.size := Array.length_toList
  rw [if_neg (by simp)]
  have ht₁ : h₁.IsList t items := (ht.push _).extBut hs₁.extBut hlt
  refine wpAny_bind (wpAny_holding (wpAny_pyNext_list_end hh hit₁ ht₁ (by simp) fun h₂ he₂ => ?_))
  exact wpAny_pure (hQ h₂ fun b o hb e => he₂ b o hb (hs₁.extBut b o hb (Heap.get?_push_of_some _ e)))
end
noncomputable def IsTgt (F : Fx) (i : Nat) (x : Str) : Prop := F.τ.nm[i]? = some x /\ (F.K x = some .local ∨ F.K x = some .cell)
inductive TgL (F : Fx) : List Nat -> List Expr -> Prop
  | nil : TgL F [] []
  | cons {i : Nat} {x : Str} {p : Pos} {is : List Nat} {es : List Expr} : IsTgt F i x -> TgL F is es -> TgL F (i :: is) (.Name x p :: es)
inductive Tg (F : Fx) : Tgt -> Expr -> Prop
  | n {i : Nat} {x : Str} {p : Pos} : IsTgt F i x -> Tg F (.n i) (.Name x p)
  | t {is : List Nat} {es : List Expr} {k : Nat} {p : Pos} : TgL F is es -> Tg F (.t is) (.Tuple es k p)
noncomputable def XN (env : Env) (x : Str) : Addr -> Prop := fun a => a = env.locals ∨ env.cells.lookup x = some a
noncomputable def XT (τ : Tb) (env : Env) (is : List Nat) : Addr -> Prop := fun a => a = env.locals ∨ ∃ i ∈ is,∃ x,τ.nm[i]? = some x /\ env.cells.lookup x = some a
theorem XN.mut {env : Env} {x : Str} {b : Addr} (h : XN env x b) : Mut env b := h.imp id fun h => ⟨x,h⟩
theorem XT_mut {τ : Tb} {env : Env} {is : List Nat} {b : Addr} (h : XT τ env is b) : Mut env b := h.imp id fun ⟨_,_,x,_,e⟩ => ⟨x,e⟩
theorem XT.mono {τ : Tb} {env : Env} {is js : List Nat} (k : ∀ i ∈ is,i ∈ js) {b : Addr} (h : XT τ env is b) : XT τ env js b := h.imp id fun ⟨i,hi,q⟩ => ⟨i,k i hi,q⟩
theorem XN_XT {τ : Tb} {env : Env} {is : List Nat} {i : Nat} {x : Str} (hi : i ∈ is) (h : τ.nm[i]? = some x) {a : Addr} (q : XN env x a) : XT τ env is a := q.imp id fun q => ⟨i,hi,x,h,q⟩
theorem nm_inj {τ : Tb} (N : Nm τ) {i j : Nat} {x : Str} (h1 : τ.nm[i]? = some x) (h2 : τ.nm[j]? = some x) : i = j :=
  let ⟨a1,_⟩ := List.getElem?_eq_some_iff.mp h1; (List.getElem?_inj a1 N.nodup).mp (h1.trans h2.symm)
theorem set_at {α : Type} {i k : Nat} {ρ : List (Option α)} {d d' : α} (e : (ρ.set i (some d))[k]? = some (some d')) : (k = i /\ d' = d) ∨ (k ≠ i /\ ρ[k]? = some (some d')) := by
  rw [List.getElem?_set] at e
  by_cases hj : i = k
  · rw [if_pos hj] at e; exact iteE e fun _ e => .inl ⟨hj.symm,(Option.some.inj (Option.some.inj e)).symm⟩
  · rw [if_neg hj] at e; exact .inr ⟨fun q => hj q.symm,e⟩
theorem set_none {α : Type} {i k : Nat} {ρ : List (Option α)} {d' : α} (e : (ρ.set i none)[k]? = some (some d')) : k ≠ i /\ ρ[k]? = some (some d') := by
  rw [List.getElem?_set] at e
  by_cases hj : i = k
  · rw [if_pos hj] at e; exact iteE e fun _ e => noneE (Option.some.inj e)
  · rw [if_neg hj] at e; exact ⟨fun q => hj q.symm,e⟩
noncomputable def GoU (F : Fx) (O : Ow) (σ : St) (X : Addr -> Prop) (ρ' : Loc) (t : Sem Unit) : Prop := F.W t (fun _ s' => (Wd F.c X σ.Φ σ.s σ.Φ s' /\ FrOk F.c F.τ.nm F.env ρ' O σ.Φ s') /\ 0 < s'.toks) σ.s
noncomputable def Spx (c : Cx) (X : Addr -> Prop) (σ σ' : St) : Prop := Wd c X σ.Φ σ.s σ'.Φ σ'.s
section
variable {F : Fx} {ρ ρ' : Loc} {O : Ow} {σ σ' : St} {X : Addr -> Prop}
theorem Ok.with {O' : Ow} (a : Ok F ρ O σ) (w : Spx F.c X σ σ') (f : FrOk F.c F.τ.nm F.env ρ' O' σ'.Φ σ'.s) (t : 0 < σ'.s.toks) : Ok F ρ' O' σ' := ⟨a.K,a.R,f,Wd.ok w,t⟩
theorem GoU.then {t : Sem Unit} {Q : Unit -> Shared -> Prop} (a : Ok F ρ O σ) (h : GoU F O σ X ρ' t) (k : ∀ u s',Spx F.c X σ ⟨σ.Φ,s'⟩ -> Ok F ρ' O ⟨σ.Φ,s'⟩ -> Q u s') : F.W t Q σ.s :=
  wpAny_mono h (fun u s' ⟨⟨w,f⟩,t⟩ => k u s' w (a.with (σ' := ⟨σ.Φ,s'⟩) w f t)) fun _ _ q => q
theorem GoU.weak {Y : Addr -> Prop} {t : Sem Unit} (h : GoU F O σ X ρ' t) (k : ∀ b,X b -> Y b) : GoU F O σ Y ρ' t :=
  wpAny_mono h (fun u s' ⟨⟨w,f⟩,t⟩ => ⟨⟨Wd.weak w fun b q => .inl (k b q),f⟩,t⟩) fun _ _ q => q
theorem Mut.off {c : Cx} {nm : List Str} {env : Env} {Φ : Fz} {s : Shared} (f : FrOk c nm env ρ O Φ s) (h : ∀ b,X b -> Mut env b) : ∀ b,X b -> Φ b = none /\ b ∉ c.T := fun b q => let y := f.off b (h b q); ⟨y.1,y.2.2⟩
theorem FrOk.put {c : Cx} {nm : List Str} {env : Env} {Φ : Fz} {s s' : Shared} {i : Nat} {x : Str} {d : D} {v : Value} {m' : Str -> Option Value} (f : FrOk c nm env ρ O Φ s) (inj : ∀ j,nm[j]? = some x -> j = i) (w : Wd c (XN env x) Φ s Φ s') (r : RepD c O s.heap Φ s.heap d v) (hd : Var i d) (hi : nm[i]? = some x)
    {m : Str -> Option Value} (k2 : ∀ (i : Nat) (x : Str) (d : D),nm[i]? = some x -> env.kindOf x = some .local -> ρ[i]? = some (some d) -> ∃ v,m x = some v /\ RepD c O s.heap Φ s.heap d v /\ Var i d)
    (hn : s'.heap.Ns env.locals m') (hm : ∀ y,y ≠ x -> m' y = m y) (hx : env.kindOf x = some .local -> m' x = some v)
    (hc : ∀ y cl u,env.cells.lookup y = some cl -> s.heap.IsCell cl u -> ∃ u',s'.heap.IsCell cl u' /\ (y ≠ x -> u' = u) /\ (y = x -> (env.kindOf x = some .cell ∨ env.kindOf x = some .free) -> u' = some v)) :
    FrOk c nm env (ρ.set i (some d)) O Φ s' := by
  have hX : ∀ b,XN env x b -> O b = none := fun b hb => (f.off b hb.mut).2.1
  have old : ∀ (j : Nat) (y : Str) (d' : D),nm[j]? = some y -> (ρ.set i (some d))[j]? = some (some d') -> (y = x /\ d' = d /\ j = i) ∨ (y ≠ x /\ ρ[j]? = some (some d')) := fun j y d' e1 e2 =>
    (set_at e2).imp (fun ⟨q,q'⟩ => by subst q; exact ⟨Option.some.inj (e1.symm.trans hi),q',rfl⟩) fun ⟨q,q'⟩ => ⟨fun z => q (inj j (z ▸ e1)),q'⟩
  refine { kind := f.kind,glb := f.glb,blt := f.blt,ns := ⟨m',hn,fun j y d' e1 e2 e3 => ?_⟩,cell := fun y cl e => ?_,has := f.has,uni := f.uni,apart := f.apart,Lc := f.Lc,off := f.off,own := fun b j e => ?_ }
  · rcases old j y d' e1 e3 with ⟨q1,q2,q3⟩ | ⟨ne,e4⟩
    · exact ⟨v,q1 ▸ hx (q1 ▸ e2),q2 ▸ r.wide w hX,q2 ▸ q3 ▸ hd⟩
    · obtain ⟨u,p1,p2,p3⟩ := k2 j y d' e1 e2 e4
      exact ⟨u,(hm y ne).trans p1,p2.wide w hX,p3⟩
  · obtain ⟨u,k1,k2⟩ := f.cell y cl e
    obtain ⟨u',z1,z2,z3⟩ := hc y cl u e k1
    refine ⟨u',z1,fun ky j d' e1 e2 => ?_⟩
    rcases old j y d' e1 e2 with ⟨q1,q2,q3⟩ | ⟨ne,e4⟩
    · exact ⟨v,z3 q1 (q1 ▸ ky),q2 ▸ r.wide w hX,q2 ▸ q3 ▸ hd⟩
    · obtain ⟨u2,p1,p2,p3⟩ := k2 ky j d' e1 e4
      exact ⟨u2,(z2 ne).trans p1,p2.wide w hX,p3⟩
  · obtain ⟨⟨o,eo⟩,q1,q2⟩ := f.own b j e
    exact ⟨⟨o,w.pres b o eo q2 fun q => noneE ((hX b q).symm.trans e)⟩,q1,q2⟩
theorem store_var (N : Nm F.τ) {i : Nat} {x : Str} {d : D} {v : Value} (a : Ok F ρ O σ) (hv : IsTgt F i x) (r : Rp F.c O σ σ d v) (hd : Var i d) : GoU F O σ (XN F.env x) (ρ.set i (some d)) (storeName F.env x v) := by
  obtain ⟨h1,h2⟩ := hv
  rw [<- a.K] at h2
  have inj : ∀ j,F.τ.nm[j]? = some x -> j = i := fun j e => nm_inj N e h1
  have off := Mut.off (X:=XN F.env x) a.fr fun b h => h.mut
  obtain ⟨m,hn,hm⟩ := a.fr.ns
  refine withToks a.t ?_
  rcases h2 with h2 | h2
  · refine wpAny_storeName_local h2 hn (fun h' hn' hs' => ?_) (a.fr.kind ▸ rfl)
    have w : Wd F.c (XN F.env x) σ.Φ σ.s σ.Φ { σ.s with heap := h',toks := σ.s.toks + 1 } := Wd.write a.k (fun b o e hb => hs'.extBut b o (fun q => hb (.inl q)) e) off
    exact ⟨w,a.fr.put inj w r hd h1 hm hn' (fun y ne => if_neg ne) (fun _ => if_pos rfl) fun y cl u e k => ⟨u,k.sameBut hs' (a.fr.Lc y cl e),fun _ => rfl,fun q hk => by subst q; rw [h2] at hk; rcases hk with hk | hk <;> cases hk⟩⟩
  · obtain ⟨cl,hcl⟩ := a.fr.has x (.inl h2)
    obtain ⟨u,hc,hp⟩ := a.fr.cell x cl hcl
    refine wpAny_storeName_cell a.fr.kind h2 hcl hc fun h' hc' hs' => ?_
    have w : Wd F.c (XN F.env x) σ.Φ σ.s σ.Φ { σ.s with heap := h' } := Wd.write (tk:=σ.s.toks) a.k (fun b o e hb => hs'.extBut b o (fun q => hb (.inr (q ▸ hcl))) e) off
    refine ⟨w,a.fr.put inj w r hd h1 hm (hn.sameBut hs' (Ne.symm (a.fr.Lc x cl hcl))) (fun _ _ => rfl) (fun q => by rw [h2] at q; cases q) fun y cl' u e k => ?_⟩
    by_cases hy : y = x
    · subst hy
      cases hcl.symm.trans e
      exact ⟨some v,hc',fun q => absurd rfl q,fun _ _ => rfl⟩
    · exact ⟨u,k.sameBut hs' (fun q => hy (a.fr.apart y x cl' e (q ▸ hcl))),fun _ => rfl,fun q => absurd q hy⟩
theorem each_assign {env : Env} : ∀ {is : List Nat} {es : List Expr},TgL F is es -> assignEach es env = es.map fun e => (false,assign e env)
  | _,_,.nil => rfl
  | _,_,.cons _ r => congrArg (List.cons _) (each_assign r)
theorem TgL.length : ∀ {is : List Nat} {es : List Expr},TgL F is es -> is.length = es.length
  | _,_,.nil => rfl
  | _,_,.cons _ r => congrArg Nat.succ r.length
theorem bindgo_length : ∀ {is : List Nat} {ds : List V} {ρ ρ' : Loc},bindT.go is ds ρ = some ρ' -> is.length = ds.length
  | [],[],_,_,_ => rfl
  | [],_ :: _,_,_,h => noneE h
  | _ :: _,[],_,_,h => noneE h
  | i :: is,d :: ds,ρ,ρ',h => iteE h fun _ h => congrArg Nat.succ (bindgo_length h)
theorem go_done {X : Addr -> Prop} (a : Ok F ρ O σ) : (fun (_ : Unit) s' => (Wd F.c X σ.Φ σ.s σ.Φ s' /\ FrOk F.c F.τ.nm F.env ρ O σ.Φ s') /\ 0 < s'.toks) () σ.s := ⟨⟨Wd.refl a.k,a.fr⟩,a.t⟩
theorem GoU.on {t : Sem Unit} {s' : Shared} (w : Wd F.c X σ.Φ σ.s σ.Φ s') (h : GoU F O ⟨σ.Φ,s'⟩ X ρ' t) : F.W t (fun _ s' => (Wd F.c X σ.Φ σ.s σ.Φ s' /\ FrOk F.c F.τ.nm F.env ρ' O σ.Φ s') /\ 0 < s'.toks) s' :=
  wpAny_mono h (fun _ _ ⟨⟨w',f⟩,t⟩ => ⟨⟨Wd.trans w w' fun _ q => .inl q,f⟩,t⟩) fun _ _ q => q
theorem names_sound (N : Nm F.τ) {all : List Nat} {α : Type} {f : α -> Value -> Sem Unit} {g : α -> Str} (hf : ∀ x v s Q,F.W (storeName F.env (g x) v) Q s -> F.W (f x v) Q s) : ∀ {xs : List α} {is : List Nat} {ds : List V} {vs : List Value} {ρ : Loc} {s : Shared},(∀ i x,(i,x) ∈ is.zip xs -> IsTgt F i (g x) /\ i ∈ all) -> xs.length = is.length -> Ok F ρ O ⟨σ.Φ,s⟩ -> Reps σ.Φ ds vs -> bindT.go is ds ρ = some ρ' ->
    GoU F O ⟨σ.Φ,s⟩ (XT F.τ F.env all) ρ' (assignInOrder (xs.map f) vs)
  | [],[],[],_,ρ,s,_,_,a,.nil,e => Option.some.inj e ▸ wpAny_pure (go_done a)
  | [],[],_ :: _,_,_,_,_,_,_,_,e => noneE e
  | [],_ :: _,_,_,_,_,_,hl,_,_,_ => nomatch hl
  | _ :: _,[],_,_,_,_,_,hl,_,_,_ => nomatch hl
  | _ :: _,_ :: _,[],_,_,_,_,_,_,_,e => noneE e
  | x :: xs,i :: is,d :: ds,_,ρ,s,ht,hl,a,.cons r rs,e => iteE e fun _ e =>
    have hx := ht i x (.head _)
    wpAny_assignInOrder_more (hf x _ _ _ (GoU.then a ((store_var N a hx.1 (d:=.v d) r trivial).weak fun b q => XN_XT hx.2 hx.1.1 q) fun _ s' w a1 =>
      GoU.on (σ:=⟨σ.Φ,s⟩) w (names_sound N hf (s:=s') (fun i x h => ht i x (.tail _ h)) (Nat.succ.inj hl) a1 rs e)))
end
end
section
set_option genInjectivity false
set_option genSizeOfSpec false
section
variable {F : Fx} {ρ ρ' : Loc} {O : Ow} {σ σ' : St} {X : Addr -> Prop}
theorem TgL.zip {all : List Nat} : ∀ {is : List Nat} {es : List Expr},TgL F is es -> (∀ i ∈ is,i ∈ all) -> ∃ xs : List (Str × Pos),es = xs.map (fun q => .Name q.1 q.2) /\ xs.length = is.length /\ ∀ i x,(i,x) ∈ is.zip xs -> IsTgt F i x.1 /\ i ∈ all
  | _,_,.nil,_ => ⟨[],rfl,rfl,fun _ _ h => nomatch h⟩
  | _,_,.cons (x:=x) (p:=p) h r,k =>
    let ⟨xs,e,l,z⟩ := TgL.zip r fun i hi => k i (.tail _ hi)
    ⟨(x,p) :: xs,congrArg (List.cons _) e,congrArg Nat.succ l,fun i y q => (List.mem_cons.mp q).elim (fun q => by cases q; exact ⟨h,k _ (.head _)⟩) (z i y)⟩
theorem go_sound (N : Nm F.τ) {is : List Nat} {es : List Expr} {ds : List V} {vs : List Value} {s : Shared} (h : TgL F is es) (a : Ok F ρ O ⟨σ.Φ,s⟩) (r : Reps σ.Φ ds vs) (e : bindT.go is ds ρ = some ρ') :
    GoU F O ⟨σ.Φ,s⟩ (XT F.τ F.env is) ρ' (assignInOrder (es.map fun e => assign e F.env) vs) := by
  obtain ⟨xs,rfl,l,z⟩ := h.zip fun i hi => hi
  rw [List.map_map]
  exact names_sound (F:=F) (σ:=σ) N (f:=fun q v => assign (.Name q.1 q.2) F.env v) (g:=(·.1)) (fun x v s Q h => wpAny_assign_Name h) z l a r e
theorem bind_sound (N : Nm F.τ) {t : Tgt} {tg : Expr} {d : V} {v : Value} (hc : Tg F t tg) (a : Ok F ρ O σ) (r : Rep σ.Φ d v) (e : bindT t d ρ = some ρ') : GoU F O σ (XT F.τ F.env t.ids) ρ' (assign tg F.env v) := by
  cases hc with
  | n h => exact iteE e fun _ e => Option.some.inj e ▸ GoU.weak (wpAny_assign_Name (store_var N a h (d:=.v d) r trivial)) fun b q => XN_XT (.head _) h.1 q
  | t h =>
    rename_i is es k p
    have ea := each_assign (F:=F) (env:=F.env) h
    have hstar : (assignEach es F.env).findIdx? (·.1) = none := by rw [ea,List.findIdx?_map]; exact List.findIdx?_eq_none_iff.mpr fun _ _ => rfl
    have hmap : (assignEach es F.env).map (·.2) = es.map fun e => assign e F.env := by rw [ea,List.map_map]; rfl
    have hlen : ∀ {l : List V} {vs : Array Value},Reps σ.Φ l vs.toList -> bindT.go is l ρ = some ρ' -> (assignEach es F.env).length = vs.size := fun r e => by
      rw [ea,List.length_map,<- h.length,bindgo_length e,<- r.length,Array.length_toList]
    have fin : ∀ (h' : Heap) (vs : List Value) (l : List V),Heap.ExtBut σ.s.heap.objs.size σ.s.heap h' -> Reps σ.Φ l vs -> bindT.go is l ρ = some ρ' -> F.W (assignInOrder ((assignEach es F.env).map (·.2)) vs) (fun _ s' => (Wd F.c (XT F.τ F.env is) σ.Φ σ.s σ.Φ s' /\ FrOk F.c F.τ.nm F.env ρ' O σ.Φ s') /\ 0 < s'.toks) { σ.s with heap := h' } := fun h' vs l hx rl e => by
      have w0 : Sp F.c σ ⟨σ.Φ,{ σ.s with heap := h' }⟩ := Wd.keep (tk:=σ.s.toks) a.k fun b o q => hx b o (Nat.ne_of_lt (Heap.lt_size q)) q
      rw [hmap]
      exact GoU.on (σ:=σ) (Wd.any w0) (go_sound (σ:=σ) N h (a.next w0 a.t) rl e)
    cases d with
    | tup l =>
      obtain ⟨p,o,vs,m,rfl,p1,p2,p3,p4⟩ := Rep.tup_inv r
      exact wpAny_assign_Tuple a.R.1 ⟨o,a.k.inn _ _ p1,p2,m,p3⟩ (hlen p4 e) hstar fun h' hx => fin h' _ l hx p4 e
    | list l =>
      obtain ⟨p,o,vs,m,rfl,p1,p2,p3,p4⟩ := Rep.list_inv r
      rw [arm_assign_Tuple]
      refine wpAny_bind (wpAny_standAt ?_)
      unfold unpack
      rw [hstar,hlen p4 e]
      exact wpAny_bind (wpAny_holding (unpackItems_list a.R.1 ⟨o,a.k.inn _ _ p1,p2,m,p3⟩ fun h' hx => fin h' _ l hx p4 e))
    | none => exact noneE e
    | bool _ => exact noneE e
    | int _ => exact noneE e
    | str _ => exact noneE e
end
noncomputable abbrev ownIters : List String := ["enumerate","zip","dict_itemiterator","dict_reverseitemiterator","odict_iterator","itertools.zip_longest","itertools.pairwise"]
structure It (c : Cx) (O : Ow) (l : List V) (I : Addr) (fp : List Addr) (P : Nat -> Value -> Prop) (Sv : Nat -> Heap -> Prop) (fz : Bool) (Φ : Fz) (h : Heap) : Prop where
  walks : ∀ A : Around,A.handled = none -> Walks c.prog c.w A I fp [I] l.length P Sv
  st : Sv 0 h
  good : ∀ i h,Sv i h -> ∃ o T,h.get? I = some o /\ o.cls = .type T /\ ownIters.contains T = false
  fzI : Φ I = none
  fp : ∀ b ∈ fp,(b ∉ c.T /\ ∃ o,h.get? b = some o) /\ (b = I ∨ (∃ o,Φ b = some o) ∨ (fz = false /\ ∃ i,O b = some i))
  val : ∀ i v,i < l.length -> P i v -> ∃ d,l[i]? = some d /\ Rep Φ d v
noncomputable def ItPost (c : Cx) (O : Ow) (σ : St) (l : List V) (fz : Bool) (it : Value) (s2 : Shared) : Prop :=
  ∃ Φ' I fp P Sv,it = .ref I /\ Wd c NoX σ.Φ σ.s Φ' s2 /\ It c O l I fp P Sv fz Φ' s2.heap /\ σ.s.heap.get? I = none
noncomputable def GoI (F : Fx) (O : Ow) (σ : St) (t : Sem Value) (l : List V) (fz : Bool) : Prop := F.W t (fun v s1 => F.W (pyIter v) (fun it s2 => ItPost F.c O σ l fz it s2 /\ 0 < s2.toks) s1) σ.s
noncomputable def SI (F : Fx) (e : Expr) (x : X) : Prop := ∀ ρ O σ l,Ok F ρ O σ -> evI F.ε x ρ = some l -> GoI F O σ (eval e F.env) l (frozenIt x ρ)
section
variable {F : Fx} {ρ ρ' : Loc} {O : Ow} {σ σ' : St}
theorem It.mk' {l : List V} {σ1 : St} {o : Obj} {fp : List Addr} {P : Nat -> Value -> Prop} {Sv : Nat -> Heap -> Prop} {fz : Bool} (w : Sp F.c σ σ1) (hf : o.isFreed = false) (walks : ∀ A : Around,A.handled = none -> Walks F.c.prog F.c.w A σ1.s.heap.objs.size (σ1.s.heap.objs.size :: fp) [σ1.s.heap.objs.size] l.length P Sv)
    (st : Sv 0 (σ1.s.heap.push o)) (good : ∀ i h,Sv i h -> ∃ o T,h.get? σ1.s.heap.objs.size = some o /\ o.cls = .type T /\ ownIters.contains T = false)
    (hfp : ∀ b ∈ fp,(b ∉ F.c.T /\ ∃ o,σ1.s.heap.get? b = some o) /\ ((∃ o,σ1.Φ b = some o) ∨ (fz = false /\ ∃ i,O b = some i))) (val : ∀ i v,i < l.length -> P i v -> ∃ d,l[i]? = some d /\ Rep σ1.Φ d v) :
    ItPost F.c O σ l fz (.ref σ1.s.heap.objs.size) { σ1.s with heap := σ1.s.heap.push o } :=
  have k := Wd.ok w
  ⟨σ1.Φ,_,_,P,Sv,rfl,Wd.then w (Wd.push k (tk:=σ1.s.toks)),⟨walks,st,good,k.fresh_F (get_size _),List.forall_mem_cons.mpr ⟨⟨⟨k.fresh_T (get_size _),_,Heap.get?_push_size _ hf⟩,.inl rfl⟩,fun b hb => let ⟨⟨q1,o,q2⟩,q3⟩ := hfp b hb; ⟨⟨q1,o,Heap.get?_push_of_some _ q2⟩,.inr q3⟩⟩,val⟩,none_back (Wd.up w) (get_size _)⟩
theorem iter_list {Φ1 : Fz} {s1 : Shared} {l : List V} {fz : Bool} {a : Addr} {vs : List Value} (w : Sp F.c σ ⟨Φ1,s1⟩) (hl : s1.heap.IsList a vs.toArray) (hr : Reps Φ1 l vs) (hT : a ∉ F.c.T) (hor : (∃ o,Φ1 a = some o) ∨ (fz = false /\ ∃ i,O a = some i)) :
    F.W (pyIter (.ref a)) (ItPost F.c O σ l fz) s1 :=
  let ⟨o,ho,hrest⟩ := hl
  have hs : vs.toArray.size = l.length := (List.size_toArray).trans hr.length
  wpAny_pyIter_list ⟨o,ho,hrest⟩ (It.mk' (F:=F) (fp:=[a]) w rfl (fun A hh => hs ▸ Walks.list hh s1.heap.objs.size a (Nat.ne_of_lt (Heap.lt_size ho)) vs.toArray) ⟨⟨_,Heap.get?_push_size _ rfl,rfl,rfl⟩,hl.push _⟩
    (fun i h ⟨⟨o,h1,h2,_⟩,_⟩ => ⟨o,_,h1,h2,by decide⟩) (all1 ⟨⟨hT,o,ho⟩,hor⟩) fun i u _ hu => hr.getV (List.getElem?_toArray.symm.trans hu))
theorem fz_noT {c : Cx} {Φ : Fz} {s : Shared} (k : OkS c Φ s) {a : Addr} {o : Obj} (e : Φ a = some o) : a ∉ c.T := fun q => noneE ((k.tn _ q).symm.trans e)
theorem iter_row {Φ1 : Fz} {s1 : Shared} {d : D} {v : Value} {l : List V} {fz : Bool} (t1 : 0 < s1.toks) (w1 : Sp F.c σ ⟨Φ1,s1⟩) (r : RepD F.c O σ.s.heap Φ1 s1.heap d v) (e : d.items = some l) (hf : ∀ i m,d = .o i m -> fz = false) :
    F.W (pyIter v) (fun it s2 => ItPost F.c O σ l fz it s2 /\ 0 < s2.toks) s1 := by
  refine withToks t1 ?_
  have k := Wd.ok w1
  cases d with
  | v d => cases d with
    | tup m =>
      cases e
      obtain ⟨a,o,vs,n,rfl,p1,p2,p3,p4⟩ := Rep.tup_inv r
      have ho := k.inn _ _ p1
      have ht : s1.heap.IsTuple a vs := ⟨o,ho,p2,n,p3⟩
      have hs : vs.size = l.length := Array.length_toList.symm.trans p4.length
      exact wpAny_pyIter_tuple ht (It.mk' (F:=F) (fp:=[a]) w1 rfl (fun A hh => hs ▸ Walks.tuple hh s1.heap.objs.size a (Nat.ne_of_lt (Heap.lt_size ho)) vs) ⟨⟨_,Heap.get?_push_size _ rfl,rfl,rfl⟩,ht.push _⟩
        (fun i h ⟨⟨o,h1,h2,_⟩,_⟩ => ⟨o,_,h1,h2,by decide⟩) (all1 ⟨⟨fz_noT k p1,o,ho⟩,.inl ⟨o,p1⟩⟩) fun i u _ hu => p4.getV (Array.getElem?_toList.trans hu))
    | list m =>
      cases e
      obtain ⟨a,o,vs,n,rfl,p1,p2,p3,p4⟩ := Rep.list_inv r
      exact iter_list w1 ⟨o,k.inn _ _ p1,p2,n,p3⟩ p4 (fz_noT k p1) (.inl ⟨o,p1⟩)
    | none => exact noneE e
    | bool _ => exact noneE e
    | int _ => exact noneE e
    | str _ => exact noneE e
  | t m =>
    cases e
    obtain ⟨a,vs,rfl,⟨n,h1⟩,h2,h3,h4,h5⟩ := r
    exact iter_list (Wd.freeze w1 h1 h3 h4 (.inr h5)) ⟨_,h1,rfl,n,rfl⟩ (h2.mono (Fz.le_add h3)) h4 (.inl ⟨_,Fz.add_self⟩)
  | o i m =>
    cases e
    obtain ⟨a,vs,rfl,⟨n,h1⟩,h2,h3,h4⟩ := r
    exact iter_list w1 ⟨_,h1,rfl,n,rfl⟩ h2 h4 (.inr ⟨hf i _ rfl,i,h3⟩)
theorem core_I {e : Expr} {x : X} (hx : SE F e x) (hev : ∀ ρ,evI F.ε x ρ = (evE F.ε x ρ).bind fun x => x.items.bind fun l => if l.length ≤ lim then some l else none)
    (hf : ∀ ρ i m,evE F.ε x ρ = some (.o i m) -> frozenIt x ρ = false) : SI F e x := fun ρ O σ l a h =>
  bindE ((hev ρ).symm.trans h) fun d e1 h => bindE h fun l' e2 h => iteE h fun _ h => Option.some.inj h ▸
  (hx ρ O σ d a e1).then a fun v σ1 w1 r1 a1 => iter_row a1.t w1 r1 e2 fun i m q => hf ρ i m (q ▸ e1)
theorem core_INone {e : Expr} {x : X} (h0 : ∀ ρ,evI F.ε x ρ = none) : SI F e x := fun ρ O σ l a h => noneE ((h0 ρ).symm.trans h)
theorem intsV_length : ∀ (a : Int) (k : Nat),(intsV a k).length = k
  | _,0 => rfl
  | a,k + 1 => congrArg Nat.succ (intsV_length (a + 1) k)
theorem intsV_get : ∀ (a : Int) (k i : Nat),i < k -> (intsV a k)[i]? = some (.int (a + i))
  | a,k + 1,0,_ => congrArg (fun z => some (V.int z)) (Int.add_zero a).symm
  | a,k + 1,i + 1,h => (intsV_get (a + 1) k i (Nat.lt_of_succ_lt_succ h)).trans (congrArg (fun z => some (V.int z)) (by omega))
theorem iter_range {σ1 : St} {r : Addr} {a b : Int} {t u v : Tok} {fz : Bool} (t1 : 0 < σ1.s.toks) (w1 : Sp F.c σ σ1) (hr : IsRange σ1.s.heap r a b 1 t u v) (h : -(2 ^ 40) ≤ a /\ a ≤ b /\ b ≤ 2 ^ 40) :
    F.W (pyIter (.ref r)) (fun it s2 => ItPost F.c O σ (intsV a (b - a).toNat) fz it s2 /\ 0 < s2.toks) σ1.s := by
  refine withToks t1 ?_
  have hsz : Builtin.Range.rangeSize a b 1 = b - a := by rw [rangeSize_one]; split <;> omega
  refine wpAny_pyIter_range hr (small_one (by omega) (by omega) (by omega) (by omega)) ?_
  refine It.mk' (F:=F) (fp:=[]) (P:=fun i v => ∃ t,v = .int (a + i * 1) t) (Sv:=fun i h => IsRangeIter h σ1.s.heap.objs.size (a + (i : Nat) * 1) (((b - a).toNat : Int) - (i : Nat)) 1) w1 rfl (fun A hh => ?_) ?_ (fun i h hi => ⟨_,"range_iterator",hi,rfl,by decide⟩) (fun _ h => nomatch h) ?_
  · rw [intsV_length]
    exact Walks.range hh σ1.s.heap.objs.size a 1 (b - a).toNat
  · rw [show a + ((0 : Nat) : Int) * 1 = a by omega,show (((b - a).toNat : Nat) : Int) - ((0 : Nat) : Int) = Builtin.Range.rangeSize a b 1 by omega]
    exact Heap.get?_push_size _ rfl
  · rintro i v hi ⟨t,rfl⟩
    rw [intsV_length] at hi
    exact ⟨_,intsV_get a _ i hi,by rw [Int.mul_one]; exact .int _ _⟩
theorem call_name {T : String} {id : Str} {p pos : Pos} {xs : Xs} {args : List Expr} {ds : List D} {Q : Value -> Shared -> Prop} (hx : SXs F args xs) (hs : NoStar args) (a : Ok F ρ O σ)
    (hg : IsGlob F id) (h0 : F.c.mg id = none) (h1 : F.c.mb id = some (.type T)) (e : evXs F.ε xs ρ = some ds)
    (h : ∀ us σ1,Sp F.c σ σ1 -> Rps F.c O σ σ1 ds us -> Ok F ρ O σ1 -> F.W (call (.type T) us) Q σ1.s) : F.W (eval (.Call (.Name id p) args [] pos) F.env) Q σ.s :=
  PyProof.Rows.Call_Name (hs.back _ _) (load_mb a hg h0 h1 (PyProof.Rows.callWith_type (plain_any _ _) (evalArgs_any ((hx ρ O σ ds a e).then a h))))
theorem core_range1 (G : Gd F.c F.τ F.ε F.n) {args : List Expr} {p pos : Pos} {x : X} (hg : IsGlob F (biName .range)) (hs : NoStar args) (hx : SXs F args (.cons x .nil)) : SI F (.Call (.Name (biName .range) p) args [] pos) (.bi .range (.cons x .nil)) := fun ρ O σ l a h =>
  bindE h fun d e1 h => bindE h fun k e2 h => iteE h fun hk h => Option.some.inj h ▸ by
    refine call_name hx hs a hg G.bt.1.1 G.bt.1.2 (ds:=[d]) (show (evE F.ε x ρ).bind _ = _ by rw [e1]; rfl) fun us σ1 w1 r1 a1 => ?_
    cases r1 with | cons r r2 _ =>
    cases r2
    refine Rp.int (σ:=σ) (σ' := σ1) r e2 (P:=fun v => F.W (call _ [v]) _ _) fun t => call_range_1 ?_
    have := iter_range (F:=F) (σ1:=⟨σ1.Φ,{ σ1.s with heap := σ1.s.heap.push { cls := .type "range",data := .fields #[.int 0 σ1.s.toks,.int k t,.int 1 (σ1.s.toks + 1)] },toks := σ1.s.toks + 1 + 1 }⟩) (fz:=frozenIt (.bi .range (.cons x .nil)) ρ) (O:=O) (Nat.succ_pos _) (w1.to (Wd.push a1.k)) (IsRange.new σ1.s.heap 0 k 1 σ1.s.toks t (σ1.s.toks + 1)) ⟨by omega,hk.1,Int.le_trans hk.2 (by decide)⟩
    rw [Int.sub_zero] at this
    exact this
theorem core_range2 (G : Gd F.c F.τ F.ε F.n) {args : List Expr} {p pos : Pos} {x y : X} (hg : IsGlob F (biName .range)) (hs : NoStar args) (hx : SXs F args (.cons x (.cons y .nil))) : SI F (.Call (.Name (biName .range) p) args [] pos) (.bi .range (.cons x (.cons y .nil))) := fun ρ O σ l a h =>
  bindE h fun d e1 h => bindE h fun d' e1' h => bindE h fun k e2 h => bindE h fun m e2' h => iteE h fun hk h => Option.some.inj h ▸ by
    refine call_name hx hs a hg G.bt.1.1 G.bt.1.2 (ds:=[d,d']) (show (evE F.ε x ρ).bind _ = _ by rw [e1]; show (((evE F.ε y ρ).bind _).bind _) = _; rw [e1']; rfl) fun us σ1 w1 r1 a1 => ?_
    cases r1 with | cons r r2 _ =>
    cases r2 with | cons r2 r3 _ =>
    cases r3
    refine Rp.int (σ:=σ) (σ' := σ1) r e2 (P:=fun v => F.W (call _ [v,_]) _ _) fun t => Rp.int (σ:=σ) (σ' := σ1) r2 e2' (P:=fun v => F.W (call _ [_,v]) _ _) fun u => call_range_2 ?_
    exact iter_range (F:=F) (σ1:=⟨σ1.Φ,{ σ1.s with heap := σ1.s.heap.push { cls := .type "range",data := .fields #[.int k t,.int m u,.int 1 σ1.s.toks] },toks := σ1.s.toks + 1 }⟩) (Nat.succ_pos _) (w1.to (Wd.push a1.k)) (IsRange.new σ1.s.heap k m 1 t u σ1.s.toks) ⟨hk.1,hk.2.1,hk.2.2.2⟩
theorem core_reversed (G : Gd F.c F.τ F.ε F.n) {args : List Expr} {p pos : Pos} {x : X} (hg : IsGlob F (biName .reversed)) (hs : NoStar args) (hx : SXs F args (.cons x .nil)) : SI F (.Call (.Name (biName .reversed) p) args [] pos) (.bi .reversed (.cons x .nil)) := fun ρ O σ l a h =>
  bindE h fun d e1 h => by
    have hd : ∃ m,d = .v (.list m) /\ m.length ≤ lim /\ m.reverse = l := by
      cases d with
      | v d => cases d with
        | list m => exact iteE h fun hk h => ⟨m,rfl,hk,Option.some.inj h⟩
        | none => exact noneE h
        | bool _ => exact noneE h
        | int _ => exact noneE h
        | str _ => exact noneE h
        | tup _ => exact noneE h
      | t _ => exact noneE h
      | o _ _ => exact noneE h
    obtain ⟨m,rfl,hk,rfl⟩ := hd
    refine call_name hx hs a hg G.bt.2.1 G.bt.2.2 (ds:=[.v (.list m)]) (show (evE F.ε x ρ).bind _ = _ by rw [e1]; rfl) fun us σ1 w1 r1 a1 => ?_
    cases r1 with | cons r r2 _ =>
    cases r2
    obtain ⟨p,o,vs,q,rfl,p1,p2,p3,p4⟩ := Rep.list_inv r
    have ho := a1.k.inn _ _ p1
    have hl : σ1.s.heap.IsList p vs := ⟨o,ho,p2,q,p3⟩
    have hsz : vs.size = m.length := Array.length_toList.symm.trans p4.length
    refine call_reversed_list hl (withToks a1.t (wpAny_pyIter_revIter ⟨_,Heap.get?_push_size _ rfl,rfl,rfl⟩ ?_))
    refine It.mk' (F:=F) (fp:=[p]) (P:=fun i v => vs[vs.size - 1 - i]? = some v) (Sv:=fun i h => i ≤ vs.size /\ h.IsRevIter σ1.s.heap.objs.size p ((vs.size : Int) - 1 - (i : Int)) /\ h.IsList p vs) w1 rfl (fun A hh => ?_)
      ⟨Nat.zero_le _,⟨_,Heap.get?_push_size _ rfl,rfl,by simp [revObj]⟩,hl.push _⟩ (fun i h ⟨_,⟨o,h1,h2,_⟩,_⟩ => ⟨o,"list_reverseiterator",h1,h2,by decide⟩) (all1 ⟨⟨fz_noT a1.k p1,o,ho⟩,.inl ⟨o,p1⟩⟩) fun i u hi hu => ?_
    · rw [List.length_reverse,<- hsz]
      exact Walks.listRev hh σ1.s.heap.objs.size p (Nat.ne_of_lt (Heap.lt_size ho)) vs
    · rw [List.length_reverse] at hi
      rw [List.getElem?_reverse hi,<- hsz]
      exact p4.getV (i:=vs.size - 1 - i) (Array.getElem?_toList.trans hu)
end
end
section
set_option genInjectivity false
set_option genSizeOfSpec false
noncomputable def cloOf (cells : List (Str × Addr)) : List (Str × NameKind) -> List (Str × Addr) -> List (Str × Addr)
  | [],acc => acc
  | (x,k) :: r,acc => match k,cells.lookup x with
    | .free,some a => cloOf cells r ((x,a) :: acc)
    | _,_ => cloOf cells r acc
theorem clo_forIn {env : Env} : ∀ (names : List (Str × NameKind)) (acc : List (Str × Addr)),(∀ p ∈ names,p.2 = .free -> ∃ a,env.cells.lookup p.1 = some a) ->
    (forIn names acc (fun (x : Str × NameKind) (cs : List (Str × Addr)) => (if (x.2 == NameKind.free) = true then do let c <- cellOf env x.1; pure (ForInStep.yield ((x.1,c) :: cs)) else pure (ForInStep.yield cs) : Sem (ForInStep (List (Str × Addr)))))) = pure (cloOf env.cells names acc)
  | [],acc,_ => by rw [List.forIn_nil]; rfl
  | (x,k) :: r,acc,h => by
    rw [List.forIn_cons]
    have hr : ∀ p ∈ r,p.2 = .free -> ∃ a,env.cells.lookup p.1 = some a := fun p hp => h p (List.mem_cons_of_mem _ hp)
    by_cases hk : k = .free
    · subst hk
      obtain ⟨a,ha⟩ := h (x,.free) List.mem_cons_self rfl
      simp only [beq_self_eq_true,if_true]
      have e1 : cellOf env x = pure a := by unfold cellOf; rw [ha]
      rw [e1]
      simp only [pure_bind]
      rw [clo_forIn r _ hr]
      conv => rhs; unfold cloOf
      simp only at ha
      simp only [ha]
    · have hb : (k == NameKind.free) = false := by simpa using hk
      simp only [hb,Bool.false_eq_true,if_false,pure_bind]
      rw [clo_forIn r _ hr]
      conv => rhs; unfold cloOf
      cases k <;> first | (exact absurd rfl hk) | rfl
theorem closure_eq {scope : Scope} {env : Env} (h : ∀ p ∈ scope.names,p.2 = .free -> ∃ a,env.cells.lookup p.1 = some a) : closureFor scope env = pure (cloOf env.cells scope.names []) := by
  have := clo_forIn scope.names [] h
  unfold closureFor
  simp only [bind_pure]
  exact this
theorem clo_lookup {cells : List (Str × Addr)} : ∀ {names : List (Str × NameKind)} {acc : List (Str × Addr)} {x : Str} {a : Addr},(cloOf cells names acc).lookup x = some a -> ((x,NameKind.free) ∈ names /\ cells.lookup x = some a) ∨ acc.lookup x = some a
  | [],acc,x,a,h => .inr h
  | (y,k) :: r,acc,x,a,h => by
    have skip : (cloOf cells r acc).lookup x = some a -> ((x,NameKind.free) ∈ (y,k) :: r /\ cells.lookup x = some a) ∨ acc.lookup x = some a := fun h => by
      rcases clo_lookup h with ⟨h1,h2⟩ | h1
      · exact .inl ⟨List.mem_cons_of_mem _ h1,h2⟩
      · exact .inr h1
    unfold cloOf at h
    split at h
    · rename_i b hb
      rcases clo_lookup h with ⟨h1,h2⟩ | h1
      · exact .inl ⟨List.mem_cons_of_mem _ h1,h2⟩
      · rw [List.lookup_cons] at h1
        cases hx : x == y with
        | true =>
          rw [hx] at h1
          cases h1
          have := eq_of_beq hx
          subst this
          exact .inl ⟨List.mem_cons_self,hb⟩
        | false => rw [hx] at h1; exact .inr h1
    · exact skip h
theorem clo_has {cells : List (Str × Addr)} : ∀ {names : List (Str × NameKind)} {acc : List (Str × Addr)} {x : Str},((x,NameKind.free) ∈ names /\ ∃ a,cells.lookup x = some a) ∨ (∃ a,acc.lookup x = some a) -> ∃ a,(cloOf cells names acc).lookup x = some a
  | [],acc,x,h => by
    rcases h with ⟨h,_⟩ | h
    · cases h
    · exact h
  | (y,k) :: r,acc,x,h => by
    unfold cloOf
    split
    · rename_i b hb
      by_cases hx : x = y
      · subst hx
        exact clo_has (.inr ⟨b,by rw [List.lookup_cons]; simp⟩)
      · rcases h with ⟨h,h2⟩ | ⟨a,h⟩
        · rcases List.mem_cons.mp h with e | h
          · cases e; exact absurd rfl hx
          · exact clo_has (.inl ⟨h,h2⟩)
        · exact clo_has (.inr ⟨a,by rw [List.lookup_cons,show (x == y) = false by simpa using hx]; exact h⟩)
    · rename_i hno
      rcases h with ⟨h,a,h2⟩ | h
      · rcases List.mem_cons.mp h with e | h
        · cases e
          exact absurd h2 (hno a rfl)
        · exact clo_has (.inl ⟨h,a,h2⟩)
      · exact clo_has (.inr h)
theorem cells_lookup : ∀ {names : List (Str × NameKind)} {n : Nat} {acc : List (Str × Addr)} {x : Str} {a : Addr},(cellsFrom n names acc).lookup x = some a -> ((x,NameKind.cell) ∈ names /\ n ≤ a) ∨ acc.lookup x = some a
  | [],n,acc,x,a,h => .inr h
  | (y,k) :: r,n,acc,x,a,h => by
    unfold cellsFrom at h
    split at h
    · rename_i hk
      rcases cells_lookup h with ⟨h1,h2⟩ | h1
      · exact .inl ⟨List.mem_cons_of_mem _ h1,by omega⟩
      · rw [List.lookup_cons] at h1
        cases hx : x == y with
        | true =>
          rw [hx] at h1
          cases h1
          have := eq_of_beq hx
          subst this
          rw [eq_of_beq hk]
          exact .inl ⟨List.mem_cons_self,Nat.le_refl _⟩
        | false => rw [hx] at h1; exact .inr h1
    · rcases cells_lookup h with ⟨h1,h2⟩ | h1
      · exact .inl ⟨List.mem_cons_of_mem _ h1,h2⟩
      · exact .inr h1
theorem cells_has : ∀ {names : List (Str × NameKind)} {n : Nat} {acc : List (Str × Addr)} {x : Str},(x,NameKind.cell) ∈ names ∨ (∃ a,acc.lookup x = some a) -> ∃ a,(cellsFrom n names acc).lookup x = some a
  | [],n,acc,x,h => by
    rcases h with h | h
    · cases h
    · exact h
  | (y,k) :: r,n,acc,x,h => by
    unfold cellsFrom
    split
    · rename_i hk
      by_cases hx : x = y
      · subst hx
        exact cells_has (.inr ⟨n,by rw [List.lookup_cons]; simp⟩)
      · rcases h with h | ⟨a,h⟩
        · rcases List.mem_cons.mp h with e | h
          · cases e; exact absurd rfl hx
          · exact cells_has (.inl h)
        · exact cells_has (.inr ⟨a,by rw [List.lookup_cons,show (x == y) = false by simpa using hx]; exact h⟩)
    · rename_i hk
      rcases h with h | h
      · rcases List.mem_cons.mp h with e | h
        · cases e; exact absurd rfl hk
        · exact cells_has (.inl h)
      · exact cells_has (.inr h)
theorem cells_new : ∀ {names : List (Str × NameKind)} {h : Heap} {acc : List (Str × Addr)} {x : Str} {a : Addr},(cellsFrom h.objs.size names acc).lookup x = some a -> acc.lookup x = some a ∨ (h.objs.size ≤ a /\ (pushCells h names).IsCell a none)
  | [],h,acc,x,a,e => .inl e
  | (y,k) :: r,h,acc,x,a,e => by
    unfold cellsFrom at e
    unfold pushCells
    split at e
    · rename_i hk
      rw [if_pos hk]
      have e' : (cellsFrom (h.push { cls := .type "cell",data := .cell none }).objs.size r ((y,h.objs.size) :: acc)).lookup x = some a := by rw [Heap.size_push]; exact e
      rcases cells_new e' with h1 | ⟨h1,h2⟩
      · rw [List.lookup_cons] at h1
        cases hx : x == y with
        | true =>
          rw [hx] at h1
          cases h1
          exact .inr ⟨Nat.le_refl _,⟨_,pushCells_keeps _ _ _ _ (Heap.get?_push_size _ rfl),rfl⟩⟩
        | false => rw [hx] at h1; exact .inl h1
      · rw [Heap.size_push] at h1
        exact .inr ⟨by omega,h2⟩
    · rename_i hk
      rw [if_neg hk]
      exact cells_new e
theorem cells_apart : ∀ {names : List (Str × NameKind)} {n : Nat} {acc : List (Str × Addr)},(∀ x a,acc.lookup x = some a -> a < n) -> (∀ x y a,acc.lookup x = some a -> acc.lookup y = some a -> x = y) ->
    ∀ x y a,(cellsFrom n names acc).lookup x = some a -> (cellsFrom n names acc).lookup y = some a -> x = y
  | [],n,acc,h1,h2,x,y,a,e1,e2 => h2 x y a e1 e2
  | (z,k) :: r,n,acc,h1,h2,x,y,a,e1,e2 => by
    unfold cellsFrom at e1 e2
    split at e1
    · rename_i hk
      rw [if_pos hk] at e2
      refine cells_apart (acc:=(z,n) :: acc) (fun u b hb => ?_) (fun u v b hu hv => ?_) x y a e1 e2
      · rw [List.lookup_cons] at hb
        split at hb
        · cases hb; exact Nat.lt_succ_self _
        · exact Nat.lt_succ_of_lt (h1 u b hb)
      · rw [List.lookup_cons] at hu hv
        split at hu <;> split at hv
        · rename_i q1 _ q2; rw [eq_of_beq q1,eq_of_beq q2]
        · cases hu; exact absurd (h1 v n hv) (Nat.lt_irrefl _)
        · cases hv; exact absurd (h1 u n hu) (Nat.lt_irrefl _)
        · exact h2 u v b hu hv
    · rename_i hk
      rw [if_neg hk] at e2
      exact cells_apart h1 h2 x y a e1 e2
noncomputable def cenvOf (scope : Scope) (L : Addr) (env : Env) : Env :=
  { scope := scope,locals := L,globals := env.globals,cells := cellsFrom (L + 1) scope.names (cloOf env.cells scope.names []),qual := env.qual,func := none,code := env.code,frame := env.frame,builtins := env.builtins }
section
variable {M : Model} {A : Around} {E : Value -> Shared -> Prop} {s : Shared}
theorem newEnv_comp {scope : Scope} {env : Env} {Q : Env -> Shared -> Prop}
    (hQ : Q (cenvOf scope s.heap.objs.size env) { s with heap := pushCells (s.heap.push { cls := .type "dict",data := .dict #[] }) scope.names }) :
    wpAny M A (newFunctionEnv scope env.globals (cloOf env.cells scope.names []) [] env.qual none .none (some env)) Q E s := by
  simp only [newFunctionEnv,Option.isSome_some,if_true]
  refine wpAny_bind (wpAny_alloc ?_)
  refine wpAny_bind (wpAny_layCells _ (fun name kind cells => by cases hkc : kind == NameKind.cell <;> simp [hkc]) _ _ _ _ ?_)
  rw [show ({ s with heap := s.heap.push { cls := .type "dict",data := .dict #[] } } : Shared).heap.objs.size = s.heap.objs.size + 1 from Heap.size_push ..]
  first
    | exact wpAny_bind (wpAny_pure (wpAny_pure hQ))
    | (simp only [List.forIn_nil]; exact wpAny_bind (wpAny_pure (wpAny_pure hQ)))
    | (simp only [List.forIn_nil]; exact wpAny_pure hQ)
end
section
theorem rel_lookup {K : Kd} : ∀ {names : List (Str × NameKind)} {x : Str},(relNames names K).lookup x = (names.lookup x).map fun k => if (k == .free && K x == some .cell) then .cell else k
  | [],_ => rfl
  | (y,k) :: r,x => by
    have ih := rel_lookup (K:=K) (names:=r) (x:=x)
    show List.lookup x ((if (k == NameKind.free && K y == some .cell) = true then (y,NameKind.cell) else (y,k)) :: relNames r K) = _
    by_cases hk : (k == NameKind.free && K y == some .cell) = true
    · rw [if_pos hk,List.lookup_cons,List.lookup_cons]
      cases hx : x == y with
      | true => have := eq_of_beq hx; subst this; simp only [Option.map_some,if_pos hk]
      | false => exact ih
    · rw [if_neg hk,List.lookup_cons,List.lookup_cons]
      cases hx : x == y with
      | true => have := eq_of_beq hx; subst this; simp only [Option.map_some,if_neg hk]
      | false => exact ih
theorem rel_names {scope : Scope} {env : Env} {K : Kd} (hk : env.scope.kind = .function) (hK : ∀ y,env.kindOf y = K y) : (relabel scope env).names = relNames scope.names K := by
  unfold relabel relNames
  simp [hk,hK]
theorem lookup_mem {names : List (Str × NameKind)} {x : Str} {k : NameKind} (h : names.lookup x = some k) : (x,k) ∈ names := by
  induction names with
  | nil => cases h
  | cons p r ih =>
    obtain ⟨y,k'⟩ := p
    rw [List.lookup_cons] at h
    cases hx : x == y with
    | true => rw [hx] at h; cases h; rw [eq_of_beq hx]; exact List.mem_cons_self
    | false => rw [hx] at h; exact List.mem_cons_of_mem _ (ih h)
theorem mem_lookup {names : List (Str × NameKind)} {x : Str} {k : NameKind} (hn : (names.map (·.1)).Nodup) (h : (x,k) ∈ names) : names.lookup x = some k := by
  induction names with
  | nil => cases h
  | cons p r ih =>
    obtain ⟨y,k'⟩ := p
    rw [List.map_cons,List.nodup_cons] at hn
    rw [List.lookup_cons]
    rcases List.mem_cons.mp h with e | h
    · cases e; simp
    · have : (x == y) = false := by
        simp only [beq_eq_false_iff_ne,ne_eq]
        intro q
        exact hn.1 (List.mem_map.mpr ⟨_,h,q⟩)
      rw [this]; exact ih hn.2 h
theorem wipe_get : ∀ {is : List Nat} {ρ : Loc} {i : Nat} {d : D},(wipe is ρ)[i]? = some (some d) -> i ∉ is /\ ρ[i]? = some (some d)
  | [],ρ,i,d,h => ⟨by simp,h⟩
  | j :: is,ρ,i,d,h => by
    have h' : (wipe is (ρ.set j none))[i]? = some (some d) := h
    obtain ⟨h1,h2⟩ := wipe_get h'
    rw [List.getElem?_set] at h2
    by_cases hj : j = i
    · subst hj
      simp only [if_true] at h2
      split at h2 <;> cases h2
    · rw [if_neg hj] at h2
      exact ⟨by simp [h1,Ne.symm hj],h2⟩
end
noncomputable abbrev CompScope (τ : Tb) (K : Kd) (ids : List Nat) (sc : Scope) : Prop :=
  (sc.kind = .function /\ (sc.names.map (·.1)).Nodup /\ ids.Nodup) /\ (∀ q ∈ sc.names,q.2 = .local ∨ q.2 = .cell -> q.1 = (".0" : Str) ∨ ∃ i ∈ ids,τ.nm[i]? = some q.1) /\
  (∀ q ∈ sc.names,q.2 = .free -> K q.1 = some .cell ∨ K q.1 = some .free) /\ ∀ i ∈ ids,∃ q ∈ sc.names,τ.nm[i]? = some q.1 /\ (q.2 = .local ∨ q.2 = .cell)
noncomputable def Fx.sub (F : Fx) (K : Kd) (env : Env) : Fx := ⟨F.c,F.τ,F.ε,F.n,F.A,K,env⟩
section
variable {F : Fx} {ρ : Loc} {O : Ow} {σ : St}
theorem fresh_all {c : Cx} {nm : List Str} {env : Env} {ρ : Loc} {O : Ow} {Φ : Fz} {s : Shared} (f : FrOk c nm env ρ O Φ s) (k : OkS c Φ s) {b : Addr} (hb : s.heap.get? b = none) : Φ b = none /\ O b = none /\ b ∉ c.T :=
  ⟨k.fresh_F hb,(match q : O b with
    | none => rfl
    | some i => let ⟨⟨_,eo⟩,_⟩ := f.own b i q; noneE (hb.symm.trans eo)),k.fresh_T hb⟩
theorem kinds_mem {names : List (Str × NameKind)} {K : Kd} {x : Str} {k : NameKind} (h : kinds names K x = some k) : (x,k) ∈ names ∨ (x,NameKind.free) ∈ names := by
  unfold kinds at h
  rw [rel_lookup] at h
  refine mapE h fun k' e1 e2 => ?_
  by_cases q : (k' == .free && K x == some .cell) = true
  · exact .inr (eq_of_beq (Bool.and_eq_true_iff.mp q).1 ▸ lookup_mem e1)
  · rw [if_neg q] at e2; exact .inl (e2 ▸ lookup_mem e1)
theorem kinds_local {names : List (Str × NameKind)} {K : Kd} {x : Str} (h : kinds names K x = some .local) : (x,NameKind.local) ∈ names := by
  unfold kinds at h
  rw [rel_lookup] at h
  refine mapE h fun k' e1 e2 => ?_
  by_cases q : (k' == .free && K x == some .cell) = true
  · rw [if_pos q] at e2; cases e2
  · rw [if_neg q] at e2; exact e2 ▸ lookup_mem e1
theorem comp_fr (N : Nm F.τ) (a : Ok F ρ O σ) {sc : Scope} {ids : List Nat} (hs : CompScope F.τ F.K ids sc) {env' : Env} {s' : Shared} (he : env' = { cenvOf sc σ.s.heap.objs.size F.env with scope := relabel sc F.env })
    (hs' : s' = { σ.s with heap := pushCells (σ.s.heap.push { cls := .type "dict",data := .dict #[] }) sc.names }) :
    Sp F.c σ ⟨σ.Φ,s'⟩ /\ Ok (F.sub (kinds sc.names F.K) env') (wipe ids ρ) O ⟨σ.Φ,s'⟩ /\ (∀ b,Mut env' b -> σ.s.heap.get? b = none ∨ Mut F.env b) /\ (∀ b,XT F.τ env' ids b -> σ.s.heap.get? b = none) := by
  obtain ⟨⟨hkind,hnd,hid⟩,hhere,hfree,htgt⟩ := hs
  have w : Sp F.c σ ⟨σ.Φ,s'⟩ := hs' ▸ Wd.keep (tk:=σ.s.toks) a.k fun b o e => pushCells_keeps _ _ b o (Heap.get?_push_of_some _ e)
  have hsz : (σ.s.heap.push { cls := .type "dict",data := .dict #[] }).objs.size = σ.s.heap.objs.size + 1 := Heap.size_push ..
  have hcl : env'.cells = cellsFrom (σ.s.heap.push { cls := .type "dict",data := .dict #[] }).objs.size sc.names (cloOf F.env.cells sc.names []) := by rw [he,hsz]; rfl
  have hL : env'.locals = σ.s.heap.objs.size := by rw [he]; rfl
  have hK : ∀ y,env'.kindOf y = kinds sc.names F.K y := fun y => by
    have hnm : env'.scope.names = relNames sc.names F.K := by rw [he]; exact rel_names a.fr.kind a.K
    show env'.scope.names.lookup y = _; rw [hnm]; rfl
  have old : ∀ x b,(cloOf F.env.cells sc.names []).lookup x = some b -> (x,NameKind.free) ∈ sc.names /\ F.env.cells.lookup x = some b := fun x b e => (clo_lookup e).elim id fun q => nomatch q
  have aliveC : ∀ x b,F.env.cells.lookup x = some b -> b < σ.s.heap.objs.size := fun x b e => let ⟨o,eo⟩ := a.fr.alive (.inr ⟨x,e⟩); Heap.lt_size eo
  have each : ∀ x b,env'.cells.lookup x = some b -> ((x,NameKind.free) ∈ sc.names /\ F.env.cells.lookup x = some b) ∨ ((x,NameKind.cell) ∈ sc.names /\ σ.s.heap.objs.size + 1 ≤ b /\ s'.heap.IsCell b none) := fun x b e => by
    rw [hcl] at e
    rcases cells_lookup e with ⟨q1,q2⟩ | q
    · exact (cells_new e).imp (old x b) fun ⟨q3,q4⟩ => ⟨q1,hsz ▸ q2,hs' ▸ q4⟩
    · exact .inl (old x b q)
  have fresh : ∀ b,σ.s.heap.objs.size ≤ b -> σ.s.heap.get? b = none := fun b hb => Heap.get?_none_of_le hb
  have notIn : ∀ (i : Nat) (x : Str) (k : NameKind) (d : D),k = .local ∨ k = .cell -> (x,k) ∈ sc.names -> F.τ.nm[i]? = some x -> (wipe ids ρ)[i]? = some (some d) -> False := fun i x k d hk hm e1 e2 =>
    (hhere _ hm hk).elim (fun q => N.dot (q ▸ List.mem_of_getElem? e1)) fun ⟨j,hj,e3⟩ => (wipe_get e2).1 (nm_inj N e1 e3 ▸ hj)
  have far : ∀ b,Mut env' b -> σ.s.heap.get? b = none ∨ Mut F.env b := fun b hb => by
    rcases hb with q | ⟨x,e⟩
    · exact .inl (q ▸ hL ▸ get_size _)
    · exact (each x b e).symm.imp (fun q => fresh b (Nat.le_of_succ_le q.2.1)) fun q => .inr ⟨x,q.2⟩
  refine ⟨w,⟨hK,a.R,?_,Wd.ok w,?_⟩,far,fun b hb => ?_⟩
  · have nsn : ∃ m,s'.heap.Ns env'.locals m := ⟨_,by rw [hL,hs']; exact (Heap.Ns.new σ.s.heap (.type "dict")).keeps (pushCells_keeps _ _)⟩
    have hblt : env'.builtins = builtinsNs := by rw [he]; exact a.fr.blt
    have hglb : env'.globals = mainGlobals := by rw [he]; exact a.fr.glb
    have hkd : env'.scope.kind = .function := by rw [he]; exact hkind
    refine { kind := hkd,glb := hglb,blt := hblt,uni := a.fr.uni,ns := let ⟨m,hm⟩ := nsn; ⟨m,hm,fun i x d e1 e2 e3 => (notIn i x .local d (.inl rfl) (kinds_local ((hK x).symm.trans e2)) e1 e3).elim⟩,cell := fun x cl e => ?_,has := fun x hx => ?_,apart := fun x y cl e1 e2 => ?_,Lc := fun x cl e => ?_,off := fun b hb => ?_,own := fun b i e => ?_ }
    · rcases each x cl e with ⟨q1,q2⟩ | ⟨q1,q2,q3⟩
      · obtain ⟨v,⟨o,eo,h1⟩,h2⟩ := a.fr.cell x cl q2
        refine ⟨v,⟨o,Wd.pres w _ _ eo (a.fr.off _ (.inr ⟨x,q2⟩)).2.2 id,h1⟩,fun _ i d e1 e2 => ?_⟩
        obtain ⟨u,b1,b2,b3⟩ := h2 (a.K x ▸ hfree _ q1 rfl) i d e1 (wipe_get e2).2
        exact ⟨u,b1,b2.wide w fun _ f => f.elim,b3⟩
      · exact ⟨none,q3,fun _ i d e1 e2 => (notIn i x .cell d (.inr rfl) q1 e1 e2).elim⟩
    · have free : (x,NameKind.free) ∈ sc.names -> ∃ cl,env'.cells.lookup x = some cl := fun hm => hcl ▸ cells_has (.inr (clo_has (.inl ⟨hm,a.fr.has x (a.K x ▸ hfree _ hm rfl)⟩)))
      have hx : kinds sc.names F.K x = some .cell ∨ kinds sc.names F.K x = some .free := hK x ▸ hx
      rcases hx with hx | hx
      · exact (kinds_mem hx).elim (fun q => hcl ▸ cells_has (.inl q)) free
      · exact (kinds_mem hx).elim free free
    · rw [show (F.sub (kinds sc.names F.K) env').env.cells = _ from hcl] at e1 e2
      exact cells_apart (fun u b hb => hsz ▸ Nat.lt_succ_of_lt (aliveC u b (old u b hb).2)) (fun u v b hu hv => a.fr.apart u v b (old u b hu).2 (old v b hv).2) x y cl e1 e2
    · exact (each x cl e).elim (fun q => hL ▸ Nat.ne_of_lt (aliveC x cl q.2)) fun q => hL ▸ Nat.ne_of_gt q.2.1
    · exact (far b hb).elim (fresh_all a.fr a.k) (a.fr.off b)
    · obtain ⟨⟨o,eo⟩,q1,q2⟩ := a.fr.own b i e
      exact ⟨⟨o,Wd.pres w b o eo q2 id⟩,q1,q2⟩
  · exact hs' ▸ a.t
  · rcases hb with q | ⟨i,hi,x,e1,e2⟩
    · exact q ▸ hL ▸ get_size _
    · rcases each x b e2 with ⟨q1,q2⟩ | ⟨q1,q2,q3⟩
      · obtain ⟨⟨y,k⟩,e3,e4,e5⟩ := htgt i hi
        cases e1.symm.trans e4
        have : k = .free := Option.some.inj ((mem_lookup hnd e3).symm.trans (mem_lookup hnd q1))
        subst this
        rcases e5 with e5 | e5 <;> cases e5
      · exact fresh b (Nat.le_of_succ_le q2)
end
end
section
set_option genInjectivity false
set_option genSizeOfSpec false
noncomputable def emitT (e elt : Expr) (gens : List Comprehension) (depth : Nat) (acc : Value) (env : Env) : Sem Unit :=
  match gens[depth]? with
  | some g' => do
    let x <- eval g'.iter env
    standAt g'.iter.pos
    let x <- if g'.is_async != 0 then foldedIterable g'.iter x else foldedSetIterable g'.iter env x
    let _ <- runOwn (.compStart e depth (<- holding [x] (if g'.is_async != 0 then asyncIter x else pyIter x)) acc env) env
  | none => do let _ <- call (.builtin "list.append") [acc,<- eval elt env]
theorem compTurn_at {elt : Expr} {gens : List Comprehension} {scope : Scope} {pos : Pos} {depth : Nat} {it acc : Value} {env : Env} {target iter : Expr} {ifs : List Expr} (h : gens[depth]? = some ⟨target,iter,ifs,0⟩) :
    compTurn (.ListComp elt gens scope pos) depth it acc env = (do
      standAt iter.pos
      match <- pyNext it with
      | none => pure (.done .next)
      | some v =>
        letOwnedTupleGo target it v
        assign target env v
        let mut ok := true
        for c in ifs do
          if ok then ok <- isTrue c env (eval c env)
        if ok then
          emitT (.ListComp elt gens scope pos) elt gens (depth + 1) acc env
        again (.compLoop (.ListComp elt gens scope pos) depth it acc env)) := by
  unfold compTurn emitT
  simp only [h]
  cases gens[depth + 1]? with
  | none => first | rfl | simp [bind_assoc]
  | some g =>
    by_cases ha : g.is_async = 0
    · simp only [ha,bne_self_eq_false,Bool.false_eq_true,if_false,bind_assoc,pure_bind]
      rfl
    · have hb : (g.is_async != 0) = true := by simpa using ha
      simp only [hb,if_true,bind_assoc,pure_bind]
      rfl
section
variable {F : Fx}
noncomputable abbrev testsOf (F : Fx) (es : List Expr) (b : Bool) : Sem Bool := forIn es b fun c r => if r = true then do let ok <- isTrue c F.env (eval c F.env); pure (ForInStep.yield ok) else pure (ForInStep.yield r)
noncomputable def STs (F : Fx) (es : List Expr) (xs : Xs) : Prop := ∀ ρ O σ b,Ok F ρ O σ -> evA F.ε .And xs ρ = some b -> GoT F σ (testsOf F es true) b
theorem tests_off {s : Shared} : ∀ {es : List Expr} {Q : Bool -> Shared -> Prop},Q false s -> F.W (testsOf F es false) Q s
  | [],Q,h => wpAny_pure h
  | e :: es,Q,h => by
    unfold testsOf
    rw [List.forIn_cons]
    exact wpAny_bind (wpAny_pure (tests_off h))
theorem tests_nil : STs F [] .nil := fun ρ O σ b a h => wpAny_pure ⟨⟨Option.some.inj h,σ.Φ,Wd.refl a.k⟩,a.t⟩
theorem tests_cons {e : Expr} {es : List Expr} {x : X} {xs : Xs} (hx : ST F e x) (hxs : STs F es xs) : STs F (e :: es) (.cons x xs) := fun ρ O σ b a h =>
  bindE h fun t e1 h => by
    unfold testsOf
    rw [List.forIn_cons]
    refine wpAny_bind (wpAny_bind ((hx ρ O σ t a e1).then a fun σ1 w1 a1 => wpAny_pure ?_))
    exact match t,h with
      | false,h => tests_off ⟨⟨Option.some.inj h,σ1.Φ,w1⟩,a1.t⟩
      | true,h => GoT.on w1 (hxs ρ O σ1 b a1 h)
end
structure Acc (c : Cx) (O : Ow) (env : Env) (D : Addr) (l : List V) (σ : St) : Prop where
  row : ∃ vs,IsPl σ.s.heap D vs /\ Reps σ.Φ l vs
  fz : σ.Φ D = none
  tab : D ∉ c.T
  ow : O D = none
  off : ¬ Mut env D
theorem Acc.step {c : Cx} {O : Ow} {env : Env} {D : Addr} {l : List V} {σ σ' : St} {X : Addr -> Prop} (a : Acc c O env D l σ) (w : Spx c X σ σ') (h : ¬ X D) : Acc c O env D l σ' :=
  let ⟨vs,⟨m,e⟩,r⟩ := a.row; ⟨⟨vs,⟨m,Wd.pres w _ _ e a.tab h⟩,r.mono (Wd.le w)⟩,Wd.stays w e a.fz h,a.tab,a.ow,a.off⟩
noncomputable def XC (τ : Tb) (env : Env) (ids : List Nat) (D : Addr) : Addr -> Prop := fun a => a = D ∨ XT τ env ids a
noncomputable def Free (ids : List Nat) (ρ : Loc) : Prop := ∀ i ∈ ids,∀ d,ρ[i]? ≠ some (some d)
noncomputable def Loc.Le (ρ ρ' : Loc) : Prop := ∀ (i : Nat) (d : D),ρ[i]? = some (some d) -> ρ'[i]? = some (some d)
theorem FrOk.less {c : Cx} {nm : List Str} {env : Env} {ρ ρ' : Loc} {O : Ow} {Φ : Fz} {s : Shared} (F : FrOk c nm env ρ' O Φ s) (h : Loc.Le ρ ρ') : FrOk c nm env ρ O Φ s :=
  { F with
    ns := let ⟨m,h1,h2⟩ := F.ns; ⟨m,h1,fun i x d e1 e2 e3 => h2 i x d e1 e2 (h i d e3)⟩
    cell := fun x cl e => let ⟨v,h1,h2⟩ := F.cell x cl e; ⟨v,h1,fun k i d e1 e2 => h2 k i d e1 (h i d e2)⟩ }
theorem set_ne {α : Type} {i j : Nat} {ρ : List α} {d : α} (h : j ≠ i) : (ρ.set j d)[i]? = ρ[i]? := List.getElem?_set_ne h
theorem bindgo_other : ∀ {is : List Nat} {ds : List V} {ρ ρ' : Loc} {i : Nat},bindT.go is ds ρ = some ρ' -> i ∉ is -> ρ'[i]? = ρ[i]?
  | [],[],_,_,_,h,_ => Option.some.inj h ▸ rfl
  | [],_ :: _,_,_,_,h,_ => noneE h
  | _ :: _,[],_,_,_,h,_ => noneE h
  | j :: is,d :: ds,ρ,ρ',i,h,hi => iteE h fun _ h => (bindgo_other h fun q => hi (.tail _ q)).trans (set_ne fun q => hi (q ▸ .head _))
theorem bind_other {t : Tgt} {d : V} {ρ ρ' : Loc} {i : Nat} (h : bindT t d ρ = some ρ') (hi : i ∉ t.ids) : ρ'[i]? = ρ[i]? := by
  cases t with
  | n j => exact iteE h fun _ h => Option.some.inj h ▸ set_ne fun q => hi (q ▸ .head _)
  | t is => cases d with
    | tup l => exact bindgo_other h hi
    | list l => exact bindgo_other h hi
    | none => exact noneE h
    | bool _ => exact noneE h
    | int _ => exact noneE h
    | str _ => exact noneE h
theorem bind_le {t : Tgt} {d : V} {ρ ρ' : Loc} (h : bindT t d ρ = some ρ') (hf : Free t.ids ρ) : Loc.Le ρ ρ' := fun i e q => (bind_other h (fun k => hf i k e q)).trans q
theorem bind_free {t : Tgt} {d : V} {ρ ρ' : Loc} {ids : List Nat} (h : bindT t d ρ = some ρ') (hf : Free ids ρ) (hd : ∀ i ∈ ids,i ∉ t.ids) : Free ids ρ' := fun i hi e q => hf i hi e ((bind_other h (hd i hi)).symm.trans q)
section
variable {F : Fx} {ρ ρ' : Loc} {O : Ow} {σ σ' : St}
theorem go_noOwned {tg : Expr} {I : Addr} {v : Value} {s : Shared} {o : Obj} {T : String} {Q : Unit -> Shared -> Prop} (e : s.heap.get? I = some o) (hc : o.cls = .type T) (hT : ownIters.contains T = false) (hQ : Q () s) :
    F.W (letOwnedTupleGo tg (.ref I) v) Q s := by
  have key : F.W (do
      let (.ref r,.ref a) := ((.ref I,v) : Value × Value) | return
      let o <- load r
      match o.cls,o.data with
      | .type n,.fields vs =>
        if ["enumerate","zip","dict_itemiterator","dict_reverseitemiterator","odict_iterator","itertools.zip_longest","itertools.pairwise"].contains n && vs[0]? == some (rawInt a) then
          rule "for.unpacks-the-owned-tuple"
          updateField r 0 .none
      | _,_ => pure ()) Q s := by
    cases v <;> first | exact wpAny_pure hQ | skip
    refine wpAny_bind (wpAny_load e ?_)
    rw [hc]
    cases o.data <;> first | exact wpAny_pure hQ | skip
    show F.W (if (ownIters.contains T && _) = true then _ else _) Q s
    rw [hT]
    exact wpAny_pure hQ
  cases tg <;> first | exact wpAny_pure hQ | exact key
noncomputable def NotSet (e : Expr) : Prop := ∀ env x,foldedSetIterable e env x = pure x
theorem start_any {R : Result -> Shared -> Prop} {s : Shared} {elt : Expr} {gens : List Comprehension} {sc : Scope} {pos : Pos} {depth : Nat} {it acc : Value} {target iter : Expr} {ifs : List Expr} (hg : gens[depth]? = some ⟨target,iter,ifs,0⟩)
    (h0 : codeAny F.M F.A (.compLoop (.ListComp elt gens sc pos) depth it acc F.env) R s)
    (h : F.W (pyIter it) (fun it' s' => codeAny F.M F.A (.compLoop (.ListComp elt gens sc pos) depth it' acc F.env) R s') s) :
    codeAny F.M F.A (.compStart (.ListComp elt gens sc pos) depth it acc F.env) R s := by
  refine codeAny_of_tree ?_
  show wpAny _ _ ((compStart (.ListComp elt gens sc pos) depth it acc F.env).onRaise (fun x => do noteFrame x F.env; standAt theWindowsPlace)) _ _ s
  refine wpAny_notedAt ?_
  unfold compStart
  rw [show clausesOf (.ListComp elt gens sc pos) = gens from rfl,hg]
  show wpAny _ _ (ask >>= _) _ _ s
  refine wpAny_bind (wpAny_askSetting (wpAny_ite ?_))
  split
  · first
      | exact wpAny_bind (wpAny_pure (wpAny_pure (And.intro rfl h0)))
      | exact wpAny_pure (And.intro rfl h0)
  · refine wpAny_bind (wpAny_rule ?_)
    show wpAny _ _ (standAt iter.pos >>= _) _ _ s
    exact wpAny_bind (wpAny_standAt (wpAny_bind (wpAny_mono h (fun it' s' h' => wpAny_pure (And.intro rfl h')) fun _ _ x => x.elim)))
structure CP (F : Fx) (D : Addr) (ρ : Loc) (O : Ow) (l : List V) (X : Addr -> Prop) (σ σ' : St) : Prop where
  w : Spx F.c X σ σ'
  fr : FrOk F.c F.τ.nm F.env ρ O σ'.Φ σ'.s
  acc : Acc F.c O F.env D l σ'
  t : 0 < σ'.s.toks
noncomputable def CPost (F : Fx) (D : Addr) (ρ : Loc) (O : Ow) (l : List V) (X : Addr -> Prop) (σ : St) (s' : Shared) : Prop := ∃ Φ',CP F D ρ O l X σ ⟨Φ',s'⟩
theorem CPost.back {D : Addr} {l : List V} {X Y : Addr -> Prop} {s' : Shared} (w : Spx F.c Y σ σ') (k : ∀ b,X b -> Y b ∨ σ.s.heap.get? b = none) (h : CPost F D ρ O l X σ' s') : CPost F D ρ O l Y σ s' :=
  let ⟨Φ',h⟩ := h; ⟨Φ',Wd.trans w h.w k,h.fr,h.acc,h.t⟩
noncomputable def SG (F : Fx) (gs : Gs) (rest : List Comprehension) (elt : Expr) : Prop :=
  ∀ ρ O σ gens depth sc pos D l out,gens.drop depth = rest -> Ok F ρ O σ -> Free gs.ids ρ -> gs.ids.Nodup -> evG F.ε gs ρ ρ = some out -> Acc F.c O F.env D l σ -> (l ++ out).length ≤ lim ->
    F.W (emitT (.ListComp elt gens sc pos) elt gens depth (.ref D) F.env) (fun _ s' => CPost F D ρ O (l ++ out) (XC F.τ F.env gs.ids D) σ s') σ.s
theorem drop_head {α : Type} {l r : List α} {k : Nat} {x : α} (h : l.drop k = x :: r) : l[k]? = some x /\ l.drop (k + 1) = r /\ k < l.length := by
  have h1 : l[k]? = some x := by
    have : (l.drop k)[0]? = some x := by rw [h]; rfl
    rwa [List.getElem?_drop] at this
  refine ⟨h1,?_,(List.getElem?_eq_some_iff.mp h1).1⟩
  have : (l.drop k).drop 1 = r := by rw [h]; rfl
  rwa [List.drop_drop] at this
structure Use (F : Fx) (O : Ow) (D : Addr) (Φ0 : Fz) (l : List V) (I : Addr) (fp : List Addr) (P : Nat -> Value -> Prop) (Sv : Nat -> Heap -> Prop) : Prop where
  walks : Walks F.c.prog F.c.w F.A I fp [I] l.length P Sv
  good : ∀ i h,Sv i h -> ∃ o T,h.get? I = some o /\ o.cls = .type T /\ ownIters.contains T = false
  fp : ∀ b ∈ fp,b ∉ F.c.T /\ (b = I ∨ (∃ o,Φ0 b = some o) ∨ ∃ i,O b = some i)
  val : ∀ i v,i < l.length -> P i v -> ∃ d,l[i]? = some d /\ Rep Φ0 d v
  off : ¬ Mut F.env I
  ow : O I = none
  ne : I ≠ D
theorem Use.end_ {D : Addr} {Φ0 : Fz} {l : List V} {I : Addr} {fp : List Addr} {P : Nat -> Value -> Prop} {Sv : Nat -> Heap -> Prop} {Q : Option Value -> Shared -> Prop} (u : Use F O D Φ0 l I fp P Sv) (a : Ok F ρ O σ) (st : Sv l.length σ.s.heap) (fzI : σ.Φ I = none)
    (k : ∀ s',Spx F.c (fun b => b = I) σ ⟨σ.Φ,s'⟩ -> Ok F ρ O ⟨σ.Φ,s'⟩ -> Q none s') : F.W (pyNext (.ref I)) Q σ.s :=
  have hI := u.fp I (u.walks.sub I (.head _))
  have wr : ∀ h' tk,(∀ b o,b ∉ [I] -> σ.s.heap.get? b = some o -> h'.get? b = some o) -> Spx F.c (fun b => b = I) σ ⟨σ.Φ,{ σ.s with heap := h',toks := tk }⟩ := fun h' tk hk => Wd.write a.k (fun b o e hb => hk b o (fun q => hb (List.mem_singleton.mp q)) e) fun b hb => hb ▸ ⟨fzI,hI.1⟩
  wpAny_mono (withToks a.t (u.walks.done σ.s (fun rr s1 => rr = none /\ Spx F.c (fun b => b = I) σ ⟨σ.Φ,s1⟩) NoE st fun h' tk hk => ⟨rfl,wr h' tk hk⟩))
    (fun rr s1 ⟨⟨e,w⟩,t⟩ => e ▸ k s1 w (a.with w (a.fr.step w fun b hb => hb ▸ ⟨u.off,u.ow⟩) t)) fun _ _ q => q
theorem Use.item_ {D : Addr} {Φ0 : Fz} {l : List V} {I : Addr} {fp : List Addr} {P : Nat -> Value -> Prop} {Sv : Nat -> Heap -> Prop} {i : Nat} {d : V} {Q : Option Value -> Shared -> Prop} (u : Use F O D Φ0 l I fp P Sv) (a : Ok F ρ O σ) (le : Φ0.le σ.Φ) (st : Sv i σ.s.heap) (fzI : σ.Φ I = none) (hi : i < l.length) (hd : l[i]? = some d)
    (k : ∀ v s',Spx F.c (fun b => b = I) σ ⟨σ.Φ,s'⟩ -> Ok F ρ O ⟨σ.Φ,s'⟩ -> Sv (i + 1) s'.heap -> Rep σ.Φ d v -> Q (some v) s') : F.W (pyNext (.ref I)) Q σ.s :=
  have hI := u.fp I (u.walks.sub I (.head _))
  have wr : ∀ h' tk,(∀ b o,b ∉ [I] -> σ.s.heap.get? b = some o -> h'.get? b = some o) -> Spx F.c (fun b => b = I) σ ⟨σ.Φ,{ σ.s with heap := h',toks := tk }⟩ := fun h' tk hk => Wd.write a.k (fun b o e hb => hk b o (fun q => hb (List.mem_singleton.mp q)) e) fun b hb => hb ▸ ⟨fzI,hI.1⟩
  wpAny_mono (withToks a.t (u.walks.item i σ.s (fun rr s1 => ∃ v,rr = some v /\ P i v /\ Sv (i + 1) s1.heap /\ Spx F.c (fun b => b = I) σ ⟨σ.Φ,s1⟩) NoE hi st fun v h' tk hP hst hk => ⟨v,rfl,hP,hst,wr h' tk hk⟩))
    (fun rr s1 ⟨⟨v,e,hP,hst,w⟩,t⟩ => e ▸ k v s1 w (a.with w (a.fr.step w fun b hb => hb ▸ ⟨u.off,u.ow⟩) t) hst (let ⟨d',e1,r⟩ := u.val i v hi hP; Option.some.inj (hd.symm.trans e1) ▸ r.mono le)) fun _ _ q => q
end
end
section
set_option genInjectivity false
set_option genSizeOfSpec false
section
variable {F : Fx} {ρ ρ' : Loc} {O : Ow} {σ σ' : St}
theorem Use.apart {D : Addr} {Φ0 : Fz} {l acc : List V} {I : Addr} {fp : List Addr} {P : Nat -> Value -> Prop} {Sv : Nat -> Heap -> Prop} (u : Use F O D Φ0 l I fp P Sv) (a : Ok F ρ O σ) (le : Φ0.le σ.Φ) (hacc : Acc F.c O F.env D acc σ) {ids : List Nat} : ∀ b ∈ fp,¬ XC F.τ F.env ids D b := fun b hb q => by
  rcases q with q | q
  · subst q
    rcases (u.fp b hb).2 with r | ⟨o,eo⟩ | ⟨j,ej⟩
    · exact u.ne r.symm
    · exact noneE (hacc.fz.symm.trans (le _ _ eo))
    · exact noneE (hacc.ow.symm.trans ej)
  · have z := a.fr.off b (XT_mut q)
    rcases (u.fp b hb).2 with r | ⟨o,eo⟩ | ⟨j,ej⟩
    · exact u.off (r ▸ XT_mut q)
    · exact noneE (z.1.symm.trans (le _ _ eo))
    · exact noneE (z.2.1.symm.trans ej)
noncomputable def FinQ (F : Fx) (R : Result -> Shared -> Prop) (fin : Fin) (s' : Shared) : Prop := match fin with | .done f => R (.ok f) s' | .again c' => c'.quiet = true /\ codeAny F.M F.A c' R s'
theorem comp_start {elt : Expr} {gens : List Comprehension} {sc : Scope} {pos : Pos} {depth : Nat} {it acc : Value} {R : Result -> Shared -> Prop} {s : Shared} (h : F.W (compTurn (.ListComp elt gens sc pos) depth it acc F.env) (FinQ F R) s) : codeAny F.M F.A (.compLoop (.ListComp elt gens sc pos) depth it acc F.env) R s := by
  refine codeAny_of_tree ?_
  show wpAny F.M F.A ((compTurn (.ListComp elt gens sc pos) depth it acc F.env).onRaise (fun x => do noteFrame x F.env; theTreesLotGoes x)) _ _ s
  exact wpAny_noted (wpAny_mono (E:=NoE) h (fun _ _ q => q) fun _ _ q => q.elim)
noncomputable abbrev turnEv (F : Fx) (t : Tgt) (ifs : Xs) (r : Gs) (ρ : Loc) (d : V) : Option (List V) := (bindT t d ρ).bind fun ρ' => (evA F.ε .And ifs ρ').bind fun b => if b then evG F.ε r ρ' ρ' else some []
theorem loop_sound (N : Nm F.τ) {t : Tgt} {ifs : Xs} {r : Gs} {elt : Expr} {gens : List Comprehension} {sc : Scope} {pos : Pos} {depth : Nat} {D : Addr} {target iter : Expr} {fs : List Expr} {gs' : List Comprehension} (hd : gens.drop depth = ⟨target,iter,fs,0⟩ :: gs') (hc1 : Tg F t target)
    (hifs : STs F fs ifs) (hr : SG F r gs' elt) (hfree : Free (t.ids ++ r.ids) ρ) (hnd : (t.ids ++ r.ids).Nodup) {l : List V} {I : Addr} {fp : List Addr} {P : Nat -> Value -> Prop} {Sv : Nat -> Heap -> Prop} {Φ0 : Fz} (u : Use F O D Φ0 l I fp P Sv) :
    ∀ (rest : List V) (i : Nat) (out acc : List V) (σ : St),l.drop i = rest -> i ≤ l.length -> Ok F ρ O σ -> Φ0.le σ.Φ -> Sv i σ.s.heap -> σ.Φ I = none -> catM (turnEv F t ifs r ρ) rest = some out -> Acc F.c O F.env D acc σ -> (acc ++ out).length ≤ lim ->
      codeAny F.M F.A (.compLoop (.ListComp elt gens sc pos) depth (.ref I) (.ref D) F.env) (fun q s' => q = .ok .next /\ CPost F D ρ O (acc ++ out) (fun a => a = I ∨ XC F.τ F.env (t.ids ++ r.ids) D a) σ s') σ.s := by
  intro rest
  obtain ⟨hg,hd',_⟩ := drop_head hd
  have hI : I ∈ fp := u.walks.sub I (.head _)
  induction rest with
  | nil =>
    intro i out acc σ hl hi a le st fzI e hacc hlen
    cases Option.some.inj e
    cases Nat.le_antisymm hi (List.drop_eq_nil_iff.mp hl)
    refine comp_start ?_
    rw [compTurn_at hg]
    exact wpAny_bind (wpAny_standAt (wpAny_bind (u.end_ a st fzI fun s' w a1 => wpAny_pure ⟨rfl,σ.Φ,Wd.weak w fun b hb => .inl (.inl hb),a1.fr,(List.append_nil acc).symm ▸ hacc.step w fun q => u.ne q.symm,a1.t⟩)))
  | cons d rest ih =>
    intro i out acc σ hl hi a le st fzI e hacc hlen
    obtain ⟨hld,hl',hil⟩ := drop_head hl
    refine bindE e fun out1 e1 e => bindE e fun out2 e2 e => bindE e1 fun ρ' e3 e1 => bindE e1 fun b e4 e5 => ?_
    cases Option.some.inj e
    have hacc1 : ∀ {s1},Spx F.c (fun b => b = I) σ ⟨σ.Φ,s1⟩ -> Acc F.c O F.env D acc ⟨σ.Φ,s1⟩ := fun w => hacc.step w fun q => u.ne q.symm
    refine comp_start ?_
    rw [compTurn_at hg]
    refine wpAny_bind (wpAny_standAt (wpAny_bind (u.item_ a le st fzI hil hld fun v s1 w1 a1 hst rd => ?_)))
    obtain ⟨o,T,eo,hoc,hoT⟩ := u.good _ _ hst
    refine wpAny_bind (go_noOwned eo hoc hoT (wpAny_bind ((bind_sound N hc1 a1 rd e3).then a1 fun _ s2 w2 a2 => ?_)))
    refine wpAny_bind ((hifs ρ' O _ b a2 e4).then a2 fun σ3 w3 a3 => ?_)
    have w23 : Spx F.c (XC F.τ F.env (t.ids ++ r.ids) D) ⟨σ.Φ,s1⟩ σ3 := Wd.then (Wd.weak w2 fun b hb => .inl (.inr (hb.mono fun j hj => List.mem_append_left _ hj))) w3
    have acc3 : Acc F.c O F.env D acc σ3 := ((hacc1 w1).step w2 fun q => hacc.off (XT_mut q)).step (X:=NoX) w3 id
    have fin : ∀ σ4,Spx F.c (XC F.τ F.env (t.ids ++ r.ids) D) ⟨σ.Φ,s1⟩ σ4 -> FrOk F.c F.τ.nm F.env ρ' O σ4.Φ σ4.s -> Acc F.c O F.env D (acc ++ out1) σ4 -> 0 < σ4.s.toks ->
        codeAny F.M F.A (.compLoop (.ListComp elt gens sc pos) depth (.ref I) (.ref D) F.env) (fun q s' => q = .ok .next /\ CPost F D ρ O (acc ++ (out1 ++ out2)) (fun a => a = I ∨ XC F.τ F.env (t.ids ++ r.ids) D a) σ s') σ4.s := fun σ4 w4 F4 acc4 t4 => by
      have hnX := u.apart a1 le (hacc1 w1) (ids:=t.ids ++ r.ids)
      have st4 : Sv (i + 1) σ4.s.heap := u.walks.frame _ _ _ hst fun b hb o e => Wd.pres w4 b o e (u.fp b hb).1 (hnX b hb)
      refine codeAny_mono (ih (i + 1) out2 (acc ++ out1) σ4 hl' hil (a1.with w4 (F4.less (bind_le e3 fun j hj => hfree j (List.mem_append_left _ hj))) t4) (le.trans (Wd.le w4)) st4 (Wd.stays w4 eo fzI (hnX I hI)) e2 acc4 (by rw [List.append_assoc]; exact hlen)) fun q s' hq => ⟨hq.1,?_⟩
      rw [<- List.append_assoc]
      exact CPost.back (Wd.trans (Wd.weak w1 fun b hb => .inl (.inl hb)) w4 fun b hb => .inl (.inr hb)) (fun b hb => .inl hb) hq.2
    cases b with
    | false =>
      cases Option.some.inj e5
      exact wpAny_pure ⟨rfl,fin σ3 w23 a3.fr ((List.append_nil acc).symm ▸ acc3) a3.t⟩
    | true =>
      have hn := List.nodup_append.mp hnd
      refine wpAny_bind (wpAny_mono (hr ρ' O σ3 gens (depth + 1) sc pos D acc out1 hd' a3 (bind_free e3 (fun j hj => hfree j (List.mem_append_right _ hj)) fun j hj q => hn.2.2 _ q _ hj rfl) hn.2.1 e5 acc3 (by
        rw [<- List.append_assoc,List.length_append] at hlen; exact Nat.le_trans (Nat.le_add_right _ _) hlen)) (fun _ s4 ⟨Φ4,h4⟩ => wpAny_pure ⟨rfl,fin ⟨Φ4,s4⟩ (Wd.trans w23 h4.w fun b hb => .inl (hb.imp id fun hb => hb.mono fun j hj => List.mem_append_right _ hj)) h4.fr h4.acc h4.t⟩) fun _ _ q => q)
theorem core_G_done {elt : Expr} {x : X} (hx : SE F elt x) : SG F (.done x) [] elt := fun ρ O σ gens depth sc pos D l out hd a hf hn e hacc hlen =>
  bindE e fun d e1 e => bindE e fun v e2 e => by
    cases Option.some.inj e
    unfold emitT
    rw [List.getElem?_eq_none (List.drop_eq_nil_iff.mp hd)]
    refine wpAny_bind ((hx ρ O σ d a e1).then a fun x σ1 w1 r1 a1 => ?_)
    obtain ⟨Φ2,w2,le,r2,_⟩ := freeze1 w1 r1 e2
    have acc2 : Acc F.c O F.env D l ⟨Φ2,σ1.s⟩ := hacc.step (X:=NoX) w2 id
    obtain ⟨vs,hp,rs⟩ := acc2.row
    have hlv : vs.toArray.size + 1 ≤ lim := by rw [List.length_append] at hlen; exact List.size_toArray.symm ▸ rs.length ▸ hlen
    refine wpAny_bind (wpAny_mono (withToks a1.t (wpAny_list_append_plain hp.plain (Q:=fun _ s2 => ∃ h',s2 = { σ1.s with heap := h' } /\ h'.PlainList D (vs.toArray.push x) /\ Heap.SameBut D σ1.s.heap h') (fun h' q1 q2 => ⟨h',rfl,q1,q2⟩) (lim_line (Nat.le_of_succ_le hlv)))) (fun _ s2 ⟨⟨h',es,q1,q2⟩,t2⟩ => ?_) fun _ _ q => q)
    subst es
    have w3 : Spx F.c (fun b => b = D) ⟨Φ2,σ1.s⟩ ⟨Φ2,{ σ1.s with heap := h' }⟩ := Wd.write (tk:=σ1.s.toks) (Wd.ok w2) (fun b o e hb => q2.extBut b o hb e) fun b hb => hb ▸ ⟨acc2.fz,acc2.tab⟩
    refine wpAny_pure ⟨Φ2,Wd.trans (Wd.any w2) w3 fun b hb => .inl (.inl hb),(a.fr.next w2).step w3 fun b hb => hb ▸ ⟨hacc.off,hacc.ow⟩,⟨⟨vs ++ [x],?_,rs.append (.one r2)⟩,acc2.fz,acc2.tab,acc2.ow,acc2.off⟩,t2⟩
    have := IsPl.of q1
    simpa using this
theorem It.use {D : Addr} {l acc : List V} {I : Addr} {fp : List Addr} {P : Nat -> Value -> Prop} {Sv : Nat -> Heap -> Prop} {fz : Bool} {Φ' : Fz} {h : Heap} (hI : It F.c O l I fp P Sv fz Φ' h) (off : ¬ Mut F.env I) (ow : O I = none) (ne : I ≠ D) (hR : F.A.handled = none) : Use F O D Φ' l I fp P Sv where
  walks := hI.walks F.A hR
  good := hI.good
  fp b hb := ⟨(hI.fp b hb).1.1,(hI.fp b hb).2.imp id fun q => q.imp id fun q => q.2⟩
  val := hI.val
  off := off
  ow := ow
  ne := ne
theorem Ok.alive (a : Ok F ρ O σ) {b : Addr} (hb : σ.s.heap.get? b = none) : ¬ Mut F.env b := fun q => let ⟨_,eo⟩ := a.fr.alive q; noneE (hb.symm.trans eo)
theorem Ok.noOw (a : Ok F ρ O σ) {b : Addr} (hb : σ.s.heap.get? b = none) : O b = none := (fresh_all a.fr a.k hb).2.1
theorem core_G_cons (N : Nm F.τ) {t : Tgt} {it : X} {ifs : Xs} {r : Gs} {target iter elt : Expr} {fs : List Expr} {gs' : List Comprehension} (hc1 : Tg F t target) (hns : NotSet iter) (hi : SI F iter it) (hifs : STs F fs ifs) (hr : SG F r gs' elt) : SG F (.cons t it ifs r) (⟨target,iter,fs,0⟩ :: gs') elt := fun ρ O σ gens depth sc pos D l out hd a hf hn e hacc hlen =>
  bindE e fun m e1 e => by
    obtain ⟨hg,hd',_⟩ := drop_head hd
    unfold emitT
    rw [hg]
    refine wpAny_bind (wpAny_mono (hi ρ O σ m a e1) (fun v s1 h1 => ?_) fun _ _ q => q)
    refine wpAny_bind (wpAny_standAt ?_)
    show F.W (foldedSetIterable iter F.env v >>= fun x => (holding [x] (pyIter x)) >>= fun i => runOwn (.compStart (.ListComp elt gens sc pos) depth i (.ref D) F.env) F.env >>= fun _ => pure ()) _ s1
    rw [hns]
    refine wpAny_bind (wpAny_pure (wpAny_bind (wpAny_holding (wpAny_mono h1 (fun i s2 ⟨⟨Φ2,I,fp,P,Sv,ei,w2,hI,hIf⟩,t2⟩ => ?_) fun _ _ q => q))))
    subst ei
    have a2 := a.next (σ' := ⟨Φ2,s2⟩) w2 t2
    have u : Use F O D Φ2 m I fp P Sv := hI.use (acc:=l) (a.alive hIf) (a.noOw hIf) (fun q => let ⟨vs,⟨k,eo⟩,_⟩ := hacc.row; noneE (hIf.symm.trans (q ▸ eo))) a.R.1
    have loop := loop_sound N (sc:=sc) (pos:=pos) hd hc1 hifs hr hf hn u m 0 out l ⟨Φ2,s2⟩ rfl (Nat.zero_le _) a2 (.refl _) hI.st hI.fzI e (hacc.step (X:=NoX) w2 id) hlen
    refine wpAny_bind (wpAny_runOwn (codeAny_mono (start_any hg loop (u.walks.self 0 s2 _ _ hI.st loop)) fun q s5 h5 => ?_))
    obtain ⟨rfl,h5⟩ := h5
    exact wpAny_pure (h5.back (σ' := ⟨Φ2,s2⟩) (Wd.any w2) fun b hb => hb.elim (fun q => .inr (q ▸ hIf)) .inl)
end
end
section
set_option genInjectivity false
set_option genSizeOfSpec false
structure Made (c : Cx) (σ : St) (l : List V) (D C : Addr) (σ' : St) : Prop where
  w : Sp c σ σ'
  t : 0 < σ'.s.toks
  row : ∃ vs,IsPl σ'.s.heap D vs /\ Reps σ'.Φ l vs
  fz : σ'.Φ D = none
  tab : D ∉ c.T
  new : σ.s.heap.get? D = none
  ns : ∃ m,σ'.s.heap.Ns C m
  cfz : σ'.Φ C = none
  ctab : C ∉ c.T
  cnew : σ.s.heap.get? C = none
  ne : D ≠ C
section
variable {F : Fx} {ρ ρ' : Loc} {O : Ow} {σ σ' : St}
structure CompCl (F : Fx) (K : Kd) (gs : Gs) (gens : List Comprehension) (elt : Expr) : Prop where
  ok : ∃ t it ifs r target iter fs gs',gs = .cons t it ifs r /\ gens = ⟨target,iter,fs,0⟩ :: gs' /\ NotSet iter /\ SI F iter it /\ ∀ env,Tg (F.sub K env) t target /\ STs (F.sub K env) fs ifs /\ SG (F.sub K env) r gs' elt
theorem comp_sound (N : Nm F.τ) {gs : Gs} {gens : List Comprehension} {elt : Expr} {sc : Scope} {pos : Pos} (h : CompCl F (kinds sc.names F.K) gs gens elt) (hs : CompScope F.τ F.K gs.ids sc) (a : Ok F ρ O σ) {out : List V} (e : evG F.ε gs ρ (wipe gs.ids ρ) = some out) (hlen : out.length ≤ lim)
    {use : Option (Value -> Sem Unit)} {Q : Value -> Shared -> Prop} (post : ∀ σ' D C,Made F.c σ out D C σ' -> compPost F.M F.A NoE use Q (.ref D) C (.ok .next) σ'.s) :
    F.W (comprehension (.ListComp elt gens sc pos) sc F.env (firstIterPos gens pos) (newList []) (firstAsync gens) (firstIter gens F.env) use) Q σ.s := by
  obtain ⟨t,it,ifs,r,target,iter,fs,gs',rfl,rfl,hns,hi,hall⟩ := h.ok
  refine bindE e fun m e1 e => ?_
  refine wpAny_comprehension_free (use:=use) rfl (fun x => hns _ x) (closure_eq fun p hp hk => a.fr.has p.1 (a.K p.1 ▸ hs.2.2.1 p hp hk)) hs.1.1 (fun x hx hk => (mem_lookup hs.1.2.1 (x:=x.1) (k:=x.2) hx).trans (congrArg some hk)) ?_
  refine wpAny_mono (hi ρ O σ m a e1) (fun v s1 h1 => wpAny_mono h1 (fun i s2 ⟨⟨Φ2,I,fp,P,Sv,ei,w2,hI,hIf⟩,t2⟩ => ?_) fun _ _ q => q) fun _ _ q => q
  subst ei
  refine wpAny_newObj_type (newEnv_comp ?_)
  have a2 := a.next (σ' := ⟨Φ2,s2⟩) w2 t2
  have w3 : Sp F.c ⟨Φ2,s2⟩ ⟨Φ2,{ s2 with heap := s2.heap.push { cls := .type "list",dict := none,data := .seq ([] : List Value).toArray } }⟩ := Wd.push (tk:=s2.toks) a2.k
  generalize hs3 : ({ s2 with heap := s2.heap.push { cls := .type "list",dict := none,data := .seq ([] : List Value).toArray } } : Shared) = s3 at w3 ⊢
  have a3 := a2.next w3 (hs3 ▸ t2)
  generalize hs4 : ({ s3 with heap := pushCells (s3.heap.push { cls := .type "dict",data := .dict #[] }) sc.names } : Shared) = s4
  generalize henv : ({ cenvOf sc s3.heap.objs.size F.env with scope := relabel sc F.env } : Env) = env'
  obtain ⟨w4,a4,hM,hX⟩ := comp_fr N a3 hs henv.symm hs4.symm
  obtain ⟨hc1,hifs,hr⟩ := hall env'
  have hDn : s2.heap.get? s2.heap.objs.size = none := get_size _
  have hD3 : s3.heap.get? s2.heap.objs.size = some { cls := .type "list",dict := none,data := .seq ([] : List Value).toArray } := hs3 ▸ Heap.get?_push_size _ rfl
  have fD := fresh_all a2.fr a2.k hDn
  have hIT : ∃ o,s2.heap.get? I = some o := (hI.fp I ((hI.walks F.A a.R.1).sub I (.head _))).1.2
  have hDI : I ≠ s2.heap.objs.size := fun q => let ⟨o,eo⟩ := hIT; noneE (hDn.symm.trans (q ▸ eo))
  have w24 := w3.to w4
  have acc4 : Acc F.c O env' s2.heap.objs.size [] ⟨Φ2,s4⟩ := ⟨⟨[],⟨_,Wd.pres w4 _ _ hD3 fD.2.2 id⟩,.nil⟩,fD.1,fD.2.2,fD.2.1,fun q => (hM _ q).elim (fun q => noneE (q.symm.trans hD3)) (a2.alive hDn)⟩
  have u : Use (F.sub (kinds sc.names F.K) env') O s2.heap.objs.size Φ2 m I fp P Sv := It.use (F:=F.sub (kinds sc.names F.K) env') (acc:=m) hI (fun q => (hM _ q).elim (fun q => let ⟨o,eo⟩ := hIT; noneE (q.symm.trans (Wd.pres w3 I o eo (hI.fp I ((hI.walks F.A a.R.1).sub I (.head _))).1.1 id))) (a.alive hIf)) (a.noOw hIf) hDI a.R.1
  have hst4 : Sv 0 s4.heap := u.walks.frame _ _ _ hI.st fun b hb o e => Wd.pres w24 b o e (hI.fp b hb).1.1 id
  have loop := loop_sound N (F:=F.sub (kinds sc.names F.K) env') (depth:=0) (gens:=⟨target,iter,fs,0⟩ :: gs') (sc:=sc) (pos:=pos) rfl hc1 hifs hr (fun j hj d q => (wipe_get q).1 hj) hs.1.2.2 u m 0 out [] ⟨Φ2,s4⟩ rfl (Nat.zero_le _) a4 (.refl _) hst4 hI.fzI e acc4 hlen
  have fin := start_any (F:=F.sub (kinds sc.names F.K) env') (pos:=pos) (depth:=0) (gens:=⟨target,iter,fs,0⟩ :: gs') rfl loop (u.walks.self 0 s4 _ _ hst4 loop)
  refine codeAny_mono fin fun q s5 ⟨eq,Φ5,h5⟩ => ?_
  subst eq
  have hC : (cenvOf sc s3.heap.objs.size F.env).locals = env'.locals := henv ▸ rfl
  rw [hC]
  have fresh : ∀ b,s3.heap.get? b = none -> σ.s.heap.get? b = none := fun b hb => none_back (Wd.up (Sp.to (σ:=σ) (σ' := ⟨Φ2,s2⟩) (σ'' := ⟨Φ2,s3⟩) w2 w3)) hb
  have off := h5.fr.off _ (.inl rfl)
  refine post ⟨Φ5,s5⟩ _ _ ⟨?_,h5.t,h5.acc.row,h5.acc.fz,h5.acc.tab,none_back (Wd.up w2) hDn,let ⟨m,hm,_⟩ := h5.fr.ns; ⟨m,hm⟩,off.1,off.2.2,henv ▸ fresh _ (get_size _),fun q => h5.acc.off (.inl q)⟩
  exact Wd.trans (Wd.then w2 w24) h5.w fun b hb => .inr (hb.elim (fun q => q ▸ hIf) fun hb => hb.elim (fun q => q ▸ none_back (Wd.up w2) hDn) fun hb => fresh b (hX b hb))
theorem core_comp (N : Nm F.τ) {gs : Gs} {gens : List Comprehension} {elt : Expr} {sc : Scope} {pos : Pos} (hc : CompCl F (kinds sc.names F.K) gs gens elt) (hs : CompScope F.τ F.K gs.ids sc) : SE F (.ListComp elt gens sc pos) (.comp gs) := fun ρ O σ d a h =>
  bindE h fun vs e1 h => iteE h fun hl h => by
    cases Option.some.inj h
    show F.W (eval (.ListComp elt gens sc pos) F.env) _ _
    rw [eval_ListComp]
    refine comp_sound N hc hs a e1 hl (use:=none) fun σ' D C M => ?_
    obtain ⟨m,hm⟩ := M.ns
    refine ⟨m,hm,fun h' hs' => ?_⟩
    have w5 : Wd F.c (fun b => b = C) σ'.Φ σ'.s σ'.Φ { σ'.s with heap := h' } := Wd.write (tk:=σ'.s.toks) (Wd.ok M.w) (fun b o e hb => hs'.extBut b o hb e) fun b hb => hb ▸ ⟨M.cfz,M.ctab⟩
    obtain ⟨us,⟨k,hp⟩,rs⟩ := M.row
    exact ⟨⟨σ'.Φ,Wd.trans M.w w5 fun b hb => .inr (hb ▸ M.cnew),D,us,rfl,⟨k,hs'.extBut _ _ M.ne hp⟩,rs,M.fz,M.tab,M.new⟩,M.t⟩
noncomputable def notO : Option D -> Prop
  | some (.o _ _) => False
  | _ => True
theorem notO_bind {α : Type} {o : Option α} {f : α -> Option D} (h : ∀ a,notO (f a)) : notO (o.bind f) := match o with
  | none => trivial
  | some a => h a
theorem notO_map {α : Type} {o : Option α} {f : α -> D} (h : ∀ a,notO (some (f a))) : notO (o.map f) := match o with
  | none => trivial
  | some a => h a
theorem notO_ite {c : Prop} [d : Decidable c] {a : Option D} (h : notO a) : notO (if c then a else none) := match d with
  | .isTrue _ => h
  | .isFalse _ => trivial
theorem noO {o : Option D} {i : Nat} {m : List V} {P : Prop} (h : notO o) (e : o = some (.o i m)) : P := by rw [e] at h; exact h.elim
theorem notO_elim {α : Type} {o : Option α} {n : Option D} {f : α -> Option D} (h : ∀ a,notO (f a)) (h2 : notO n) : notO (o.elim n f) := match o with
  | none => h2
  | some a => h a
theorem binS_o {op : Operator} {x : Str} {b : D} : notO (binS op x b) := by
  cases op with
  | Add => exact notO_bind fun _ => notO_ite (a:=some (.v _)) trivial
  | Mult => exact notO_bind fun _ => notO_ite (a:=some (.v _)) trivial
  | _ => trivial
theorem binL_o {op : Operator} {a b : D} : notO (binL op a b) := by
  cases op with
  | Add => exact notO_bind fun _ => notO_bind fun _ => notO_ite (a:=some (.t _)) trivial
  | Mult => exact notO_bind fun _ => notO_bind fun _ => notO_ite (a:=some (.t _)) trivial
  | _ => trivial
theorem binD_o {op : Operator} {a b : D} : notO (binD op a b) :=
  notO_elim (fun _ => notO_bind fun _ => notO_map fun _ => trivial) (notO_elim (fun _ => binS_o) binL_o)
theorem slc_o {a : D} {lo hi : Option Int} : notO (slcF a lo hi) := by
  unfold slcF
  cases a.str with
  | some x => exact notO_ite (a:=some (.v _)) trivial
  | none => exact notO_bind fun l => notO_ite (a:=some (.t _)) trivial
theorem rev_o {a : D} : notO (slcR a) := by
  unfold slcR
  cases a.str with
  | some x => exact notO_ite (a:=some (.v _)) trivial
  | none => exact notO_bind fun l => notO_ite (a:=some (.v _)) trivial
theorem slcD_o {a l u st : D} : notO (slcD a l u st) := notO_bind fun _ => notO_bind fun _ => notO_bind fun s => match s with
  | none => slc_o
  | some _ => notO_ite rev_o
theorem items_if {α : Type} {o : Option α} {f : α -> List V} {g : α -> D} (hg : ∀ a,(g a).items = some (f a)) : (o.bind fun vs => if (f vs).length ≤ lim then some (f vs) else none) = ((o.bind fun vs => if (f vs).length ≤ lim then some (g vs) else none).bind fun x => x.items.bind fun l => if l.length ≤ lim then some l else none) := by
  cases o with
  | none => rfl
  | some vs =>
    show (if (f vs).length ≤ lim then some (f vs) else none) = ((if (f vs).length ≤ lim then some (g vs) else none).bind fun x => x.items.bind fun l => if l.length ≤ lim then some l else none)
    by_cases hl : (f vs).length ≤ lim
    · rw [if_pos hl,if_pos hl]; show _ = (g vs).items.bind _; rw [hg]; exact (if_pos hl).symm
    · rw [if_neg hl,if_neg hl]; rfl
noncomputable abbrev itms (x : D) : Option (List V) := x.items.bind fun l => if l.length ≤ lim then some l else none
theorem core_I_var {i : Nat} {e : Expr} (h : SE F e (.var i)) : SI F e (.var i) := core_I h (fun ρ => rfl) fun ρ j m e => bindE e fun q e1 e2 => by
  cases (show q = some (D.o j m) from e2)
  show (match ρ[i]? with | some (some (.v _)) => true | _ => false) = false
  rw [e1]
theorem core_I_bin {op : Operator} {x y : X} {e : Expr} (h : SE F e (.bin op x y)) : SI F e (.bin op x y) := core_I h (fun ρ => bind_bind2 (evE F.ε x ρ) (evE F.ε y ρ) (binD op) itms) fun ρ j m e => noO (notO_bind fun _ => notO_bind fun _ => binD_o) e
theorem bind4 {α β γ δ ζ η : Type} (o : Option α) (p : Option β) (q : Option γ) (r : Option δ) (f : α -> β -> γ -> δ -> Option ζ) (g : ζ -> Option η) : (o.bind fun a => p.bind fun b => q.bind fun c => r.bind fun d => (f a b c d).bind g) = (o.bind fun a => p.bind fun b => q.bind fun c => r.bind (f a b c)).bind g := by cases o <;> cases p <;> cases q <;> cases r <;> rfl
theorem core_I_slc {x l u st : X} {e : Expr} (h : SE F e (.slc x l u st)) : SI F e (.slc x l u st) := core_I h (fun ρ => bind4 (evE F.ε x ρ) (evE F.ε l ρ) (evE F.ε u ρ) (evE F.ε st ρ) slcD itms) fun ρ j m e => noO (notO_bind fun _ => notO_bind fun _ => notO_bind fun _ => notO_bind fun _ => slcD_o) e
theorem core_I_tup {xs : Xs} {e : Expr} (h : SE F e (.tup xs)) : SI F e (.tup xs) := core_I h (fun ρ => by
    show ((evXs F.ε xs ρ).bind fun ds => (fzs ds).bind fun vs => if vs.length ≤ lim then some vs else none) = ((evXs F.ε xs ρ).bind fun ds => (fzs ds).bind fun vs => if vs.length ≤ lim then some (D.v (.tup vs)) else none).bind itms
    cases evXs F.ε xs ρ with
    | none => rfl
    | some ds => exact items_if (f:=fun vs => vs) (g:=fun vs => D.v (.tup vs)) fun _ => rfl) fun ρ j m e => noO (notO_bind fun _ => notO_bind fun _ => notO_ite (a:=some (.v _)) trivial) e
theorem core_I_lst {xs : Xs} {e : Expr} (h : SE F e (.lst xs)) : SI F e (.lst xs) := core_I h (fun ρ => by
    show ((evXs F.ε xs ρ).bind fun ds => (fzs ds).bind fun vs => if vs.length ≤ lim then some vs else none) = ((evXs F.ε xs ρ).bind fun ds => (fzs ds).bind fun vs => if vs.length ≤ lim then some (D.t vs) else none).bind itms
    cases evXs F.ε xs ρ with
    | none => rfl
    | some ds => exact items_if (f:=fun vs => vs) (g:=fun vs => D.t vs) fun _ => rfl) fun ρ j m e => noO (notO_bind fun _ => notO_bind fun _ => notO_ite (a:=some (.t _)) trivial) e
theorem core_I_comp {gs : Gs} {e : Expr} (h : SE F e (.comp gs)) : SI F e (.comp gs) := core_I h (fun ρ => items_if (o:=evG F.ε gs ρ (wipe gs.ids ρ)) (f:=fun vs => vs) (g:=fun vs => D.t vs) fun _ => rfl) fun ρ j m e => noO (notO_bind fun _ => notO_ite (a:=some (.t _)) trivial) e
theorem core_I_call {f : Nat} {xs : Xs} {e : Expr} (h : SE F e (.call f xs)) : SI F e (.call f xs) := core_I h (fun ρ => by
    show ((evXs F.ε xs ρ).bind fun ds => (fzs ds).bind fun vs => (F.ε.F f vs).bind fun d => itms (.v d)) = ((evXs F.ε xs ρ).bind fun ds => (fzs ds).bind fun vs => (F.ε.F f vs).map .v).bind itms
    cases evXs F.ε xs ρ with
    | none => rfl
    | some ds =>
      show ((fzs ds).bind fun vs => (F.ε.F f vs).bind fun d => itms (.v d)) = ((fzs ds).bind fun vs => (F.ε.F f vs).map .v).bind itms
      cases fzs ds with
      | none => rfl
      | some vs => exact map_bind _ _ _) fun ρ j m e => noO (notO_bind fun _ => notO_bind fun _ => notO_map (f:=D.v) fun _ => trivial) e
end
end
section
set_option genInjectivity false
set_option genSizeOfSpec false
set_option backward.match.sparseCases false
structure PlainE (F : Fx) (e : Expr) (x : X) : Prop where
  ns : ∀ env es,starEach (e :: es) env = (false,eval e env) :: starEach es env
  sl : NotSl e
  st : NotSet e
  bm : ∀ op,behindInMarks op e = false
  ab : AttrB e
  so : (∀ tg line env,swapsWithSole [tg] e line env = pure false) ∨ ∃ elt gens sc p gs,e = .ListComp elt gens sc p /\ x = .comp gs /\ CompCl F (kinds sc.names F.K) gs gens elt /\ CompScope F.τ F.K gs.ids sc
structure AllE (F : Fx) (ex : Expr) (x : X) : Prop where
  e : SE F ex x
  t : ST F ex x
  i : SI F ex x
  p : PlainE F ex x
structure AllXs (F : Fx) (es : List Expr) (xs : Xs) : Prop where
  e : SXs F es xs
  a : SA F es xs
  b : SB F es xs
  t : STs F es xs
  ns : NoStar es
  ea : ∀ env,evalEach es env = es.map fun e => eval e env
section
variable {F : Fx}
theorem AllE.val {e : Expr} {x : X} (he : SE F e x) (p : PlainE F e x) (ht : ∀ ρ,evT F.ε x ρ = none) (hi : ∀ ρ,evI F.ε x ρ = none) : AllE F e x := ⟨he,core_testNone ht,core_INone hi,p⟩
theorem allXs_nil : AllXs F [] .nil := ⟨core_nil,core_A_nil,fun _ _ _ _ _ _ _ h => noneE h,tests_nil,fun _ => rfl,fun _ => rfl⟩
theorem allXs_cons {e : Expr} {es : List Expr} {x : X} {xs : Xs} (h : AllE F e x) (k : AllXs F es xs) (sh : (es = [] /\ xs = .nil) ∨ ∃ e2 r y ys,es = e2 :: r /\ xs = .cons y ys) : AllXs F (e :: es) (.cons x xs) :=
  ⟨core_cons h.e k.e,core_A_cons h.t k.a,(match sh with
    | .inl ⟨e1,e2⟩ => e1 ▸ e2 ▸ core_B_one h.e
    | .inr ⟨e2,r,y,ys,e1,e2'⟩ => by subst e1; subst e2'; exact core_B_cons h.e k.b),tests_cons h.t k.t,fun env => (h.p.ns env es).trans (congrArg _ (k.ns env)),fun env => congrArg _ (k.ea env)⟩
theorem bi_I (G : Gd F.c F.τ F.ε F.n) {b : Bi} {args : List Expr} {p pos : Pos} {xs : Xs} (hg : IsGlob F (biName b)) (hs : NoStar args) (hx : SXs F args xs) : SI F (.Call (.Name (biName b) p) args [] pos) (.bi b xs) := by
  cases b with
  | range => cases xs with
    | nil => exact core_INone fun _ => rfl
    | cons x r => cases r with
      | nil => exact core_range1 G hg hs hx
      | cons y r => cases r with
        | nil => exact core_range2 G hg hs hx
        | cons z r => exact core_INone fun _ => rfl
  | reversed => cases xs with
    | nil => exact core_INone fun _ => rfl
    | cons x r => cases r with
      | nil => exact core_reversed G hg hs hx
      | cons y r => exact core_INone fun _ => rfl
  | abs => exact core_INone fun _ => rfl
  | len => exact core_INone fun _ => rfl
  | sum => exact core_INone fun _ => rfl
  | max => exact core_INone fun _ => rfl
  | min => exact core_INone fun _ => rfl
  | hex => exact core_INone fun _ => rfl
  | divmod => exact core_INone fun _ => rfl
  | sorted => exact core_INone fun _ => rfl
end
section
variable (c : Cx) (τ : Tb) (ε : Ev) (n : Nat)
noncomputable abbrev fx (K : Kd) (A : Around) (env : Env) : Fx := ⟨c,τ,ε,n,A,K,env⟩
noncomputable abbrev Snd (K : Kd) (e : Expr) : Type := { x : X // ∀ A env,AllE (fx c τ ε n K A env) e x }
structure Snds (K : Kd) (es : List Expr) : Type where
  xs : Xs
  h : ∀ A env,AllXs (fx c τ ε n K A env) es xs
  sh : (es = [] /\ xs = .nil) ∨ ∃ e r y ys,es = e :: r /\ xs = .cons y ys
variable {c τ ε n} {K : Kd}
noncomputable def listX (f : ∀ e,Option (Snd c τ ε n K e)) : ∀ es,Option (Snds c τ ε n K es)
  | [] => some ⟨.nil,fun _ _ => allXs_nil,.inl ⟨rfl,rfl⟩⟩
  | e :: es => (f e).bind fun x => (listX f es).bind fun xs => some ⟨.cons x.1 xs.xs,fun A env => allXs_cons (x.2 A env) (xs.h A env) xs.sh,.inr ⟨_,_,_,_,rfl,rfl⟩⟩
noncomputable abbrev VarOk (τ : Tb) (K : Kd) (i : Nat) (x : Str) : Prop := τ.nm[i]? = some x /\ (K x = some .local ∨ K x = some .cell ∨ K x = some .free) /\ (x == ("__debug__" : Str)) = false /\ (x == ("__classdict__" : Str)) = false
noncomputable abbrev GlobOk (K : Kd) (x : Str) : Prop := K x = some .globalImplicit /\ (x == ("__debug__" : Str)) = false
theorem VarOk.is {F : Fx} {i : Nat} {x : Str} (h : VarOk F.τ F.K i x) : IsVar F i x := ⟨h.1,h.2.1,h.2.2.1,h.2.2.2⟩
theorem GlobOk.is {F : Fx} {x : Str} (h : GlobOk F.K x) : IsGlob F x := ⟨h.1,h.2⟩
noncomputable def nameX (G : Gd c τ ε n) (K : Kd) (x : Str) (pos : Pos) : Option (Snd c τ ε n K (.Name x pos)) :=
  if h : VarOk τ K (τ.nm.idxOf x) x then some ⟨.var (τ.nm.idxOf x),fun A env =>
    have e : SE (fx c τ ε n K A env) (.Name x pos) (.var (τ.nm.idxOf x)) := core_var (VarOk.is h)
    ⟨e,core_test e (fun _ _ => rfl) fun _ => rfl,core_I_var e,⟨fun _ _ => rfl,fun _ _ => rfl,fun _ _ => rfl,fun _ => rfl,fun _ _ => rfl,.inl fun _ _ _ => rfl⟩⟩⟩
  else if h : τ.gn[τ.gn.idxOf x]? = some x /\ GlobOk K x then some ⟨.gl (τ.gn.idxOf x),fun A env => .val (core_gl G h.1 (GlobOk.is h.2)) ⟨fun _ _ => rfl,fun _ _ => rfl,fun _ _ => rfl,fun _ => rfl,fun _ _ => rfl,.inl fun _ _ _ => rfl⟩ (fun _ => rfl) fun _ => rfl⟩
  else none
noncomputable def litX (K : Kd) (k : Nat) (pos : Pos) : ∀ v : Const,Option (Snd c τ ε n K (.Constant v k pos))
  | .none => some ⟨.lit .none,fun A env => .val core_lit_none ⟨fun _ _ => rfl,fun _ _ => rfl,fun _ _ => rfl,fun _ => rfl,fun _ _ => rfl,.inl fun _ _ _ => rfl⟩ (fun _ => rfl) fun _ => rfl⟩
  | .bool b => some ⟨.lit (.bool b),fun A env => .val core_lit_bool ⟨fun _ _ => rfl,fun _ _ => rfl,fun _ _ => rfl,fun _ => rfl,fun _ _ => rfl,.inl fun _ _ _ => rfl⟩ (fun _ => rfl) fun _ => rfl⟩
  | .int b => some ⟨.lit (.int b),fun A env => .val core_lit_int ⟨fun _ _ => rfl,fun _ _ => rfl,fun _ _ => rfl,fun _ => rfl,fun _ _ => rfl,.inl fun _ _ _ => rfl⟩ (fun _ => rfl) fun _ => rfl⟩
  | .str b => some ⟨.lit (.str b),fun A env => .val core_lit_str ⟨fun _ _ => rfl,fun _ _ => rfl,fun _ _ => rfl,fun _ => rfl,fun _ _ => rfl,.inl fun _ _ _ => rfl⟩ (fun _ => rfl) fun _ => rfl⟩
  | _ => none
noncomputable def unX (K : Kd) (pos : Pos) {e : Expr} (a : Snd c τ ε n K e) : ∀ op,Option (Snd c τ ε n K (.UnaryOp op e pos))
  | .USub => some ⟨.neg a.1,fun A env => .val (core_neg (a.2 A env).e) ⟨fun _ _ => rfl,fun _ _ => rfl,fun _ _ => rfl,fun _ => rfl,fun _ _ => rfl,.inl fun _ _ _ => rfl⟩ (fun _ => rfl) fun _ => rfl⟩
  | .Invert => some ⟨.inv a.1,fun A env => .val (core_inv (a.2 A env).e) ⟨fun _ _ => rfl,fun _ _ => rfl,fun _ _ => rfl,fun _ => rfl,fun _ _ => rfl,.inl fun _ _ _ => rfl⟩ (fun _ => rfl) fun _ => rfl⟩
  | .Not => some ⟨.not a.1,fun A env => ⟨fun _ _ _ _ _ h => noneE h,core_notT (a.2 A env).t,core_INone fun _ => rfl,⟨fun _ _ => rfl,fun _ _ => rfl,fun _ _ => rfl,fun _ => rfl,fun _ _ => rfl,.inl fun _ _ _ => rfl⟩⟩⟩
  | _ => none
noncomputable def cmpX (f : ∀ e,Option (Snd c τ ε n K e)) (l : Expr) (pos : Pos) : ∀ ops rs,Option (Snd c τ ε n K (.Compare l ops rs pos))
  | [op],[r] => (f l).bind fun a => (f r).bind fun b => some ⟨.cmp op a.1 b.1,fun A env => ⟨core_cmp (a.2 A env).e (b.2 A env).e ((b.2 A env).p.bm op),core_cmpT (a.2 A env).e (b.2 A env).e ((b.2 A env).p.bm op),core_INone fun _ => rfl,⟨fun _ _ => rfl,fun _ _ => rfl,fun _ _ => rfl,fun _ => rfl,fun _ _ => rfl,.inl fun _ _ _ => rfl⟩⟩⟩
  | _,_ => none
noncomputable def partX (f : ∀ e,Option (Snd c τ ε n K e)) : ∀ oe : Option Expr,Option { x : X // ∀ A env,SP (fx c τ ε n K A env) oe x }
  | none => some ⟨.no,fun _ _ => part_none⟩
  | some e => (f e).bind fun a => some ⟨a.1,fun A env => part_some (a.2 A env).e⟩
noncomputable def subX (f : ∀ e,Option (Snd c τ ε n K e)) (v : Expr) (pos : Pos) : ∀ s,Option (Snd c τ ε n K (.Subscript v s pos))
  | .Slice l u t p => (f v).bind fun a => (partX f l).bind fun x => (partX f u).bind fun y => (partX f t).bind fun z => some ⟨.slc a.1 x.1 y.1 z.1,fun A env =>
      have e : SE (fx c τ ε n K A env) _ _ := core_slc (a.2 A env).e (x.2 A env) (y.2 A env) (z.2 A env)
      ⟨e,core_testNone fun _ => rfl,core_I_slc e,⟨fun _ _ => rfl,fun _ _ => rfl,fun _ _ => rfl,fun _ => rfl,fun _ _ => rfl,.inl fun _ _ _ => rfl⟩⟩⟩
  | s => (f v).bind fun a => (f s).bind fun b => some ⟨.sub a.1 b.1,fun A env =>
      have e : SE (fx c τ ε n K A env) _ _ := core_sub (a.2 A env).e (b.2 A env).e (b.2 A env).p.sl
      ⟨e,core_test e (fun _ _ => rfl) evT_sub,core_INone fun _ => rfl,⟨fun _ _ => rfl,fun _ _ => rfl,fun _ _ => rfl,fun _ => rfl,fun _ _ => rfl,.inl fun _ _ _ => rfl⟩⟩⟩
noncomputable def biOf (x : Str) : Option { b : Bi // biName b = x } := go [.abs,.len,.sum,.max,.min,.hex,.divmod,.sorted,.range,.reversed]
where
  go : List Bi -> Option { b : Bi // biName b = x }
    | [] => none
    | b :: r => if h : biName b = x then some ⟨b,h⟩ else go r
noncomputable def meOf (x : Str) : Option { b : Me // meName b = x } := go [.split,.join,.bitLength,.startswith,.endswith,.find,.count]
where
  go : List Me -> Option { b : Me // meName b = x }
    | [] => none
    | b :: r => if h : meName b = x then some ⟨b,h⟩ else go r
theorem call_ab {x : Str} {p pos : Pos} {args : List Expr} (h : (x == ("super" : Str)) = false) : AttrB (.Call (.Name x p) args [] pos) := fun name env => by
  cases args with
  | cons a r => rfl
  | nil =>
    show (if _ then _ else _) = _
    exact if_pos (by simp [bne,h])
noncomputable def callX (G : Gd c τ ε n) (f : ∀ e,Option (Snd c τ ε n K e)) (x : Str) (p : Pos) (args : List Expr) (pos : Pos) : Option (Snd c τ ε n K (.Call (.Name x p) args [] pos)) :=
  (listX f args).bind fun xs => if hs : (x == ("super" : Str)) = false /\ GlobOk K x then
    if h : τ.fn[τ.fn.idxOf x]? = some x then some ⟨.call (τ.fn.idxOf x) xs.xs,fun A env =>
      have e : SE (fx c τ ε n K A env) (.Call (.Name x p) args [] pos) (.call (τ.fn.idxOf x) xs.xs) := core_call G h (GlobOk.is hs.2) (xs.h A env).ns (xs.h A env).e
      ⟨e,core_test e (fun _ _ => rfl) evT_call,core_I_call e,⟨fun _ _ => rfl,fun _ _ => rfl,fun _ _ => rfl,fun _ => rfl,call_ab hs.1,.inl fun _ _ _ => rfl⟩⟩⟩
    else (biOf x).bind fun b => some ⟨.bi b.1 xs.xs,fun A env => by
      obtain ⟨b,hb⟩ := b
      subst hb
      exact ⟨core_bi G (GlobOk.is hs.2) (xs.h A env).ns (xs.h A env).e,core_testNone fun _ => rfl,bi_I G (GlobOk.is hs.2) (xs.h A env).ns (xs.h A env).e,⟨fun _ _ => rfl,fun _ _ => rfl,fun _ _ => rfl,fun _ => rfl,call_ab hs.1,.inl fun _ _ _ => rfl⟩⟩⟩
  else none
noncomputable def repX (f : ∀ e,Option (Snd c τ ε n K e)) (o : Expr) (apos pos : Pos) (h : (apos.endLine == pos.line) = true) : ∀ args,Option (Snd c τ ε n K (.Call (.Attribute o ("replace" : Str) apos) args [] pos))
  | [.Constant (.str y) k1 p1,.Constant (.str z) k2 p2] => (f o).bind fun a => some ⟨.rep a.1 y z,fun A env => .val (core_rep (a.2 A env).p.ab h (a.2 A env).e) ⟨fun _ _ => rfl,fun _ _ => rfl,fun _ _ => rfl,fun _ => rfl,fun _ _ => rfl,.inl fun _ _ _ => rfl⟩ (fun _ => rfl) fun _ => rfl⟩
  | _ => none
noncomputable def flagX (G : Gd c τ ε n) (f : ∀ e,Option (Snd c τ ε n K e)) (apos pos : Pos) (h : (apos.endLine == pos.line) = true) : ∀ o args,Option (Snd c τ ε n K (.Call (.Attribute o ("get" : Str) apos) args [] pos))
  | .Name x p0,[e1,e2] => if hx : x = τ.tn /\ GlobOk K x then (f e1).bind fun a => (f e2).bind fun b => some ⟨.flag a.1 b.1,fun A env =>
      .val (by
        obtain ⟨rfl,hg⟩ := hx
        exact core_flag G (GlobOk.is hg) h (fun env' => ((a.2 A env).p.ns env' [e2]).trans (congrArg _ ((b.2 A env).p.ns env' []))) (a.2 A env).e (b.2 A env).e) ⟨fun _ _ => rfl,fun _ _ => rfl,fun _ _ => rfl,fun _ => rfl,fun _ _ => rfl,.inl fun _ _ _ => rfl⟩ (fun _ => rfl) fun _ => rfl⟩ else none
  | _,_ => none
noncomputable def methX (G : Gd c τ ε n) (f : ∀ e,Option (Snd c τ ε n K e)) (o : Expr) (name : Str) (apos : Pos) (args : List Expr) (pos : Pos) : Option (Snd c τ ε n K (.Call (.Attribute o name apos) args [] pos)) :=
  if h : (apos.endLine == pos.line) = true then
    if h1 : name = ("replace" : Str) then (by subst h1; exact repX f o apos pos h args)
    else if h1 : name = ("get" : Str) then (by subst h1; exact flagX G f apos pos h o args)
    else (meOf name).bind fun m => if hl : args.length < 20 then (f o).bind fun a => (listX f args).bind fun xs => some ⟨.meth m.1 a.1 xs.xs,fun A env =>
      have e : SE (fx c τ ε n K A env) (.Call (.Attribute o name apos) args [] pos) (.meth m.1 a.1 xs.xs) := by
        obtain ⟨m,rfl⟩ := m
        exact core_meth (a.2 A env).p.ab h hl (xs.h A env).ns (a.2 A env).e (xs.h A env).e
      ⟨e,core_test e (fun _ _ => rfl) evT_meth,core_INone fun _ => rfl,⟨fun _ _ => rfl,fun _ _ => rfl,fun _ _ => rfl,fun _ => rfl,fun _ _ => rfl,.inl fun _ _ _ => rfl⟩⟩⟩ else none
  else none
noncomputable abbrev TgtOk (τ : Tb) (K : Kd) (i : Nat) (x : Str) : Prop := τ.nm[i]? = some x /\ (K x = some .local ∨ K x = some .cell)
noncomputable def tgsX (c : Cx) (τ : Tb) (ε : Ev) (n : Nat) (K : Kd) : ∀ es : List Expr,Option { is : List Nat // ∀ A env,TgL (fx c τ ε n K A env) is es }
  | [] => some ⟨[],fun _ _ => .nil⟩
  | .Name x p :: es => if h : TgtOk τ K (τ.nm.idxOf x) x then (tgsX c τ ε n K es).bind fun is => some ⟨τ.nm.idxOf x :: is.1,fun A env => .cons h (is.2 A env)⟩ else none
  | _ => none
noncomputable def tgX (c : Cx) (τ : Tb) (ε : Ev) (n : Nat) (K : Kd) : ∀ e : Expr,Option { t : Tgt // ∀ A env,Tg (fx c τ ε n K A env) t e }
  | .Name x p => if h : TgtOk τ K (τ.nm.idxOf x) x then some ⟨.n (τ.nm.idxOf x),fun A env => .n h⟩ else none
  | .Tuple es k p => (tgsX c τ ε n K es).bind fun is => some ⟨.t is.1,fun A env => .t (is.2 A env)⟩
  | _ => none
noncomputable def gensX (N : Nm τ) (f : ∀ e,Option (Snd c τ ε n K e)) (elt : Expr) : ∀ gens,Option { gs : Gs // ∀ A env,SG (fx c τ ε n K A env) gs gens elt }
  | [] => (f elt).bind fun x => some ⟨.done x.1,fun A env => core_G_done (x.2 A env).e⟩
  | ⟨tg,iter,fs,0⟩ :: gs => (tgX c τ ε n K tg).bind fun t => (f iter).bind fun it => (listX f fs).bind fun ifs => (gensX N f elt gs).bind fun r =>
      some ⟨.cons t.1 it.1 ifs.xs r.1,fun A env => core_G_cons N (t.2 A env) (it.2 A env).p.st (it.2 A env).i (ifs.h A env).t (r.2 A env)⟩
  | _ => none
noncomputable def compX (N : Nm τ) {K1 : Kd} (f : ∀ e,Option (Snd c τ ε n K e)) (f1 : ∀ e,Option (Snd c τ ε n K1 e)) (elt : Expr) : ∀ gens,Option { gs : Gs // ∀ A env,CompCl (fx c τ ε n K A env) K1 gs gens elt }
  | ⟨tg,iter,fs,0⟩ :: gs => (tgX c τ ε n K1 tg).bind fun t => (f iter).bind fun it => (listX f1 fs).bind fun ifs => (gensX N f1 elt gs).bind fun r =>
      some ⟨.cons t.1 it.1 ifs.xs r.1,fun A env => ⟨_,_,_,_,_,_,_,_,rfl,rfl,(it.2 A env).p.st,(it.2 A env).i,fun env' => ⟨t.2 A env',(ifs.h A env').t,r.2 A env'⟩⟩⟩
  | _ => none
noncomputable def toX (G : Gd c τ ε n) : Nat -> ∀ (K : Kd) (e : Expr),Option (Snd c τ ε n K e)
  | 0,_,_ => none
  | k + 1,K,e => match e with
    | .Constant v k pos => litX K k pos v
    | .Name x pos => nameX G K x pos
    | .BinOp l op r pos => (toX G k K l).bind fun a => (toX G k K r).bind fun b => some ⟨.bin op a.1 b.1,fun A env =>
        have e : SE (fx c τ ε n K A env) _ _ := core_bin (a.2 A env).e (b.2 A env).e
        ⟨e,core_test e (fun _ _ => rfl) evT_bin,core_I_bin e,⟨fun _ _ => rfl,fun _ _ => rfl,fun _ _ => rfl,fun _ => rfl,fun _ _ => rfl,.inl fun _ _ _ => rfl⟩⟩⟩
    | .UnaryOp op y pos => (toX G k K y).bind fun a => unX K pos a op
    | .BoolOp op es pos => (listX (toX G k K) es).bind fun xs => some ⟨.bop op xs.xs,fun A env => ⟨core_bop (xs.h A env).ea (xs.h A env).b,core_bopT (xs.h A env).a,core_INone fun _ => rfl,⟨fun _ _ => rfl,fun _ _ => rfl,fun _ _ => rfl,fun _ => rfl,fun _ _ => rfl,.inl fun _ _ _ => rfl⟩⟩⟩
    | .IfExp t a b pos => (toX G k K t).bind fun t => (toX G k K a).bind fun a => (toX G k K b).bind fun b => some ⟨.ite t.1 a.1 b.1,fun A env => ⟨core_ite (t.2 A env).t (a.2 A env).e (b.2 A env).e,core_iteT (t.2 A env).t (a.2 A env).t (b.2 A env).t,core_INone fun _ => rfl,⟨fun _ _ => rfl,fun _ _ => rfl,fun _ _ => rfl,fun _ => rfl,fun _ _ => rfl,.inl fun _ _ _ => rfl⟩⟩⟩
    | .Compare l ops rs pos => cmpX (toX G k K) l pos ops rs
    | .Subscript v s pos => subX (toX G k K) v pos s
    | .Tuple es j pos => (listX (toX G k K) es).bind fun xs => some ⟨.tup xs.xs,fun A env =>
        have e : SE (fx c τ ε n K A env) _ _ := core_tup (xs.h A env).ns (xs.h A env).e
        ⟨e,core_testNone fun _ => rfl,core_I_tup e,⟨fun _ _ => rfl,fun _ _ => rfl,fun _ _ => rfl,fun _ => rfl,fun _ _ => rfl,.inl fun _ _ _ => rfl⟩⟩⟩
    | .List es pos => (listX (toX G k K) es).bind fun xs => some ⟨.lst xs.xs,fun A env =>
        have e : SE (fx c τ ε n K A env) _ _ := core_lst (xs.h A env).ns (xs.h A env).e
        ⟨e,core_testNone fun _ => rfl,core_I_lst e,⟨fun _ _ => rfl,fun _ _ => rfl,fun _ _ => rfl,fun _ => rfl,fun _ _ => rfl,.inl fun _ _ _ => rfl⟩⟩⟩
    | .ListComp elt gens sc pos => (compX G.nm (toX G k K) (toX G k (kinds sc.names K)) elt gens).bind fun gs => if h : CompScope τ K gs.1.ids sc then some ⟨.comp gs.1,fun A env =>
        have e : SE (fx c τ ε n K A env) _ _ := core_comp G.nm (gs.2 A env) h
        ⟨e,core_testNone fun _ => rfl,core_I_comp e,⟨fun _ _ => rfl,fun _ _ => rfl,fun _ _ => rfl,fun _ => rfl,fun _ _ => rfl,.inr ⟨_,_,_,_,_,rfl,rfl,gs.2 A env,h⟩⟩⟩⟩ else none
    | .Call g args [] pos => match g with
      | .Name x p => callX G (toX G k K) x p args pos
      | .Attribute o name apos => methX G (toX G k K) o name apos args pos
      | _ => none
    | _ => none
end
end
section
set_option genInjectivity false
set_option genSizeOfSpec false
set_option backward.match.sparseCases false
noncomputable def XS (env : Env) (O : Ow) : Addr -> Prop := fun a => Mut env a ∨ ∃ i,O a = some i
structure Step (F : Fx) (E : Addr -> Prop) (O : Ow) (σ : St) (O' : Ow) (σ' : St) : Prop where
  w : Spx F.c (fun a => E a ∨ XS F.env O a) σ σ'
  up : ∀ a,¬ E a -> (σ.s.heap.get? a).isSome = true -> (σ'.s.heap.get? a).isSome = true
  ow : ∀ a i,O' a = some i -> O a = some i ∨ σ.s.heap.get? a = none ∨ E a
noncomputable def FlPost (F : Fx) (ρ' : Loc) (O' : Ow) (σ' : St) : Fl -> Flow -> Prop
  | .next,.next => FrOk F.c F.τ.nm F.env ρ' O' σ'.Φ σ'.s
  | .brk,.brk => FrOk F.c F.τ.nm F.env ρ' O' σ'.Φ σ'.s
  | .ret d,.ret v => Rep σ'.Φ d v
  | _,_ => False
noncomputable def SPost (F : Fx) (E : Addr -> Prop) (O : Ow) (σ : St) (q : Fl × Loc) (f : Flow) (s' : Shared) : Prop := ∃ Φ' O',Step F E O σ O' ⟨Φ',s'⟩ /\ FlPost F q.2 O' ⟨Φ',s'⟩ q.1 f /\ 0 < s'.toks
noncomputable def SS (F : Fx) (st : Stmt) (x : S) : Prop := ∀ ρ O σ q,Ok F ρ O σ -> evS F.ε x ρ = some q -> F.W (exec st F.env) (SPost F NoX O σ q) σ.s
noncomputable def SSs (F : Fx) (es : List Stmt) (xs : Ss) : Prop := ∀ ρ O σ q,Ok F ρ O σ -> evSs F.ε xs ρ = some q -> F.W (execs es F.env) (SPost F NoX O σ q) σ.s
section
variable {F : Fx} {E E' : Addr -> Prop} {ρ ρ' : Loc} {O O1 O2 : Ow} {σ σ1 σ2 : St} {q : Fl × Loc} {f : Flow}
theorem none_up {h h' : Heap} {a : Addr} (g : (h.get? a).isSome = true -> (h'.get? a).isSome = true) (e : h'.get? a = none) : h.get? a = none := by
  cases q : h.get? a with
  | none => rfl
  | some o => have := g (by rw [q]; rfl); rw [e] at this; cases this
theorem Step.trans (x : Step F E O σ O1 σ1) (y : Step F E O1 σ1 O2 σ2) : Step F E O σ O2 σ2 where
  w := Wd.trans x.w y.w fun a h => h.elim (fun h => .inl (.inl h)) fun h => h.elim (fun h => .inl (.inr (.inl h))) fun ⟨i,h⟩ => (x.ow a i h).elim (fun h => .inl (.inr (.inr ⟨i,h⟩))) fun h => h.elim .inr fun h => .inl (.inl h)
  up a h e := y.up a h (x.up a h e)
  ow a i e := (y.ow a i e).elim (x.ow a i) fun h => h.elim (fun h => (Classical.em (E a)).elim (fun k => .inr (.inr k)) fun k => .inr (.inl (none_up (x.up a k) h))) fun h => .inr (.inr h)
theorem Step.of (w : Sp F.c σ σ1) : Step F E O σ O σ1 := ⟨Wd.any w,fun a _ e => Wd.up w a e,fun _ _ e => .inl e⟩
theorem Step.weak (x : Step F E O σ O1 σ1) (k : ∀ a,E a -> E' a ∨ σ.s.heap.get? a = none) : Step F E' O σ O1 σ1 where
  w := Wd.weak x.w fun a h => h.elim (fun h => (k a h).imp .inl id) fun h => .inl (.inr h)
  up a h e := x.up a (fun z => (k a z).elim h fun z => by rw [z] at e; cases e) e
  ow a i e := (x.ow a i e).imp id fun h => h.elim .inl fun h => (k a h).elim .inr .inl
theorem SPost.back {s' : Shared} (x : Step F E O σ O1 σ1) (h : SPost F E O1 σ1 q f s') : SPost F E O σ q f s' :=
  let ⟨Φ',O',h1,h2⟩ := h; ⟨Φ',O',x.trans h1,h2⟩
theorem SPost.weak {s' : Shared} (h : SPost F E O σ q f s') (k : ∀ a,E a -> E' a ∨ σ.s.heap.get? a = none) : SPost F E' O σ q f s' :=
  let ⟨Φ',O',h1,h2⟩ := h; ⟨Φ',O',h1.weak k,h2⟩
theorem SPost.next (x : Step F E O σ O1 σ1) (a : Ok F ρ' O1 σ1) : SPost F E O σ (.next,ρ') .next σ1.s := ⟨_,O1,x,a.fr,a.t⟩
theorem Ok.refl (a : Ok F ρ O σ) : Step F E O σ O σ := .of (Wd.refl a.k)
theorem SPost.cases {s' : Shared} {P : Prop} (a : Ok F ρ O σ) (h : SPost F E O σ q f s') (k : ∀ O' σ' ρ',σ'.s = s' -> q = (.next,ρ') -> f = .next -> Step F E O σ O' σ' -> Ok F ρ' O' σ' -> P) (kb : ∀ O' σ' ρ',σ'.s = s' -> q = (.brk,ρ') -> f = .brk -> Step F E O σ O' σ' -> Ok F ρ' O' σ' -> P)
    (kr : ∀ d v,q.1 = .ret d -> f = .ret v -> P) : P := by
  obtain ⟨Φ',O',h1,h2,t⟩ := h
  obtain ⟨fl,ρ1⟩ := q
  cases fl with
  | next => cases f with
    | next => exact k O' ⟨Φ',s'⟩ ρ1 rfl rfl rfl h1 ⟨a.K,a.R,h2,Wd.ok h1.w,t⟩
    | brk => exact h2.elim
    | cont => exact h2.elim
    | ret v => exact h2.elim
  | brk => cases f with
    | brk => exact kb O' ⟨Φ',s'⟩ ρ1 rfl rfl rfl h1 ⟨a.K,a.R,h2,Wd.ok h1.w,t⟩
    | next => exact h2.elim
    | cont => exact h2.elim
    | ret v => exact h2.elim
  | ret d => cases f with
    | ret v => exact kr d v rfl rfl
    | next => exact h2.elim
    | cont => exact h2.elim
    | brk => exact h2.elim
theorem stm_nil : SSs F [] .nil := fun ρ O σ q a h => Option.some.inj h ▸ wpAny_execs_nil (SPost.next a.refl a)
theorem stm_cons {st : Stmt} {es : List Stmt} {x : S} {r : Ss} (hx : SS F st x) (hr : SSs F es r) : SSs F (st :: es) (.cons x r) := fun ρ O σ q a h =>
  bindE h fun q1 e1 h => wpAny_execs_cons (wpAny_mono (hx ρ O σ q1 a e1) (fun f s1 h1 => SPost.cases a h1
    (fun O1 σ1 ρ1 es eq ef x1 a1 => by subst es; subst eq; subst ef; exact wpAny_mono (hr ρ1 O1 σ1 q a1 h) (fun _ _ h2 => SPost.back x1 h2) fun _ _ q => q)
    (fun O1 σ1 ρ1 es eq ef x1 a1 => by subst eq; subst ef; cases Option.some.inj h; exact h1)
    (fun d v eq ef => by obtain ⟨fl,ρ1⟩ := q1; cases eq; subst ef; cases Option.some.inj h; exact h1)) fun _ _ q => q)
theorem stm_brk {pos : Pos} : SS F (.Break pos) .brk := fun ρ O σ q a h => Option.some.inj h ▸ wpAny_Break ⟨_,O,a.refl,a.fr,a.t⟩
theorem stm_stop {st : Stmt} : SS F st .stop := fun ρ O σ q a h => noneE h
theorem stm_ret {e : Expr} {pos : Pos} {x : X} (hx : SE F e x) : SS F (.Return (some e) pos) (.ret x) := fun ρ O σ q a h =>
  mapE h fun d e1 h => by
    subst h
    refine wpAny_Return_some ((hx ρ O σ d a e1).then a fun v σ1 w1 r1 a1 => ?_)
    have fin : ∀ Φ2,Wd F.c (fun a => NoX a ∨ XS F.env O a) σ.Φ σ.s Φ2 σ1.s -> Rep Φ2 d.dat v -> SPost F NoX O σ (.ret d.dat,ρ) (.ret v) σ1.s := fun Φ2 w2 r2 => ⟨Φ2,fun _ => none,⟨w2,fun a _ e => Wd.up w1 a e,fun _ _ e => noneE e⟩,r2,a1.t⟩
    cases d with
    | v d => exact fin σ1.Φ (Wd.any w1) r1
    | t l =>
      obtain ⟨Φ2,w2,_,r2,_⟩ := freeze1 w1 r1 (z:=.list l) rfl
      exact fin Φ2 (Wd.any w2) r2
    | o i l =>
      obtain ⟨p,vs,rfl,⟨m,g1⟩,g2,g3,g4⟩ := r1
      have hn : σ1.Φ p = none := (a1.fr.own p i g3).2.1
      exact fin _ ((Wd.any (X:=fun a => NoX a ∨ XS F.env O a) w1).freeze g1 hn g4 (.inl (.inr (.inr ⟨i,g3⟩)))) (.list Fz.add_self (g2.mono (Fz.le_add hn)))
theorem stm_ast {e : Expr} {m : Option Expr} {pos : Pos} {x : X} (hx : ST F e x) : SS F (.Assert e m pos) (.ast x) := fun ρ O σ q a h =>
  bindE h fun b e1 h => match b,h,e1 with
    | true,h,e1 => Option.some.inj h ▸ wpAny_Assert_holds ((hx ρ O σ true a e1).then a fun σ1 w1 a1 => ⟨rfl,SPost.next (.of w1) a1⟩)
theorem stm_ife {e : Expr} {es fs : List Stmt} {pos : Pos} {t : X} {x y : Ss} (ht : ST F e t) (hx : SSs F es x) (hy : SSs F fs y) : SS F (.If e es fs pos) (.ife t x y) := fun ρ O σ q a h =>
  bindE h fun b e1 h => wpAny_If ((ht ρ O σ b a e1).then a fun σ1 w1 a1 => match b,h with
    | true,h => wpAny_mono (hx ρ O σ1 q a1 h) (fun _ _ h2 => SPost.back (.of w1) h2) fun _ _ q => q
    | false,h => wpAny_mono (hy ρ O σ1 q a1 h) (fun _ _ h2 => SPost.back (.of w1) h2) fun _ _ q => q)
theorem ownAt_some {i : Nat} {ρ : Loc} {l : List V} (e : ownAt i ρ = some l) : ρ[i]? = some (some (.o i l)) := by
  unfold ownAt at e
  generalize ρ[i]? = z at e ⊢
  cases z with
  | none => exact noneE e
  | some z => cases z with
    | none => exact noneE e
    | some d => cases d with
      | v d => exact noneE e
      | t l => exact noneE e
      | o j m => exact iteE e fun hj h => by subst hj; rw [Option.some.inj h]
theorem var_at {i : Nat} {x : Str} {d : D} (a : Ok F ρ O σ) (hv : IsVar F i x) (e : ρ[i]? = some (some d)) : ∃ v,Rp F.c O σ σ d v /\ Var i d := by
  have h2 := hv.k
  rw [<- a.K] at h2
  rcases h2 with h2 | h2
  · obtain ⟨m,hn,hm⟩ := a.fr.ns
    obtain ⟨v,p1,p2⟩ := hm i x d hv.at_ h2 e
    exact ⟨v,p2⟩
  · exact cell_at a hv.at_ h2 e fun cl v _ _ p2 p3 => ⟨v,p2,p3⟩
theorem FrOk.re {c : Cx} {nm : List Str} {env : Env} {ρ ρ' : Loc} {O O' : Ow} {Φ Φ' : Fz} {s s' : Shared} (f : FrOk c nm env ρ O Φ s) (keep : ∀ b o,Mut env b -> s.heap.get? b = some o -> s'.heap.get? b = some o)
    (hr : ∀ (k : Nat) (d' : D),ρ'[k]? = some (some d') -> ∃ d,ρ[k]? = some (some d) /\ ∀ v,RepD c O s.heap Φ s.heap d v -> Var k d -> RepD c O' s'.heap Φ' s'.heap d' v /\ Var k d')
    (hoff : ∀ b,Mut env b -> Φ' b = none /\ O' b = none) (hown : ∀ b i,O' b = some i -> (∃ o,s'.heap.get? b = some o) /\ Φ' b = none /\ b ∉ c.T) (huni : ∀ a b i,O' a = some i -> O' b = some i -> a = b) : FrOk c nm env ρ' O' Φ' s' where
  kind := f.kind
  glb := f.glb
  blt := f.blt
  ns := let ⟨m,h1,h2⟩ := f.ns
    ⟨m,h1.at' fun o e => keep _ o (.inl rfl) e,fun k x d' e1 e2 e3 => let ⟨d,q1,q2⟩ := hr k d' e3; let ⟨v,p1,p2,p3⟩ := h2 k x d e1 e2 q1; ⟨v,p1,q2 v p2 p3⟩⟩
  cell x cl e := let ⟨v,⟨o,eo,h1⟩,h2⟩ := f.cell x cl e
    ⟨v,⟨o,keep _ o (.inr ⟨x,e⟩) eo,h1⟩,fun kx k d' e1 e3 => let ⟨d,q1,q2⟩ := hr k d' e3; let ⟨w,p1,p2,p3⟩ := h2 kx k d e1 q1; ⟨w,p1,q2 w p2 p3⟩⟩
  has := f.has
  uni := huni
  apart := f.apart
  Lc := f.Lc
  off b hb := ⟨(hoff b hb).1,(hoff b hb).2,(f.off b hb).2.2⟩
  own := hown
theorem freeze_own (a : Ok F ρ O σ) {i : Nat} {x : Str} {l : List V} (hv : IsVar F i x) (e : ownAt i ρ = some l) : ∃ Φ' O',Step F NoX O σ O' ⟨Φ',σ.s⟩ /\ Ok F (ρ.set i (some (.v (.list l)))) O' ⟨Φ',σ.s⟩ := by
  have e' := ownAt_some e
  obtain ⟨v,r,_⟩ := var_at a hv e'
  obtain ⟨p,vs,rfl,⟨m,h1⟩,h2,h3,h4⟩ := r
  obtain ⟨_,h5,_⟩ := a.fr.own p i h3
  have hle : σ.Φ.le (σ.Φ.add p { cls := .type "list",data := .seq vs.toArray m }) := Fz.le_add h5
  have hO : ∀ b j,(if b = p then none else O b) = some j -> b ≠ p /\ O b = some j := fun b j q => by
    by_cases hb : b = p
    · rw [if_pos hb] at q; exact noneE q
    · rw [if_neg hb] at q; exact ⟨hb,q⟩
  have w : Spx F.c (fun a => NoX a ∨ XS F.env O a) σ ⟨σ.Φ.add p { cls := .type "list",data := .seq vs.toArray m },σ.s⟩ := (Wd.refl a.k).freeze h1 h5 h4 (.inl (.inr (.inr ⟨i,h3⟩)))
  refine ⟨_,fun b => if b = p then none else O b,⟨w,fun _ _ e => e,fun b j q => .inl (hO b j q).2⟩,a.K,a.R,a.fr.re (fun _ _ _ e => e) (fun k d' e3 => ?_) (fun b hb => ?_) (fun b j q => ?_) (fun a1 b j e1 e2 => a.fr.uni a1 b j (hO _ _ e1).2 (hO _ _ e2).2),Wd.ok w,a.t⟩
  · rcases set_at e3 with ⟨rfl,rfl⟩ | ⟨ne,e4⟩
    · refine ⟨_,e',fun v r _ => ⟨?_,trivial⟩⟩
      obtain ⟨q,us,rfl,⟨m',g1⟩,g2,g3,g4⟩ := r
      cases a.fr.uni q p _ g3 h3
      cases h1.symm.trans g1
      exact .list Fz.add_self (g2.mono hle)
    · refine ⟨d',e4,fun v r hr => ⟨?_,hr⟩⟩
      cases d' with
      | v d => exact Rep.mono hle r
      | t l => exact hr.elim
      | o j l' =>
        obtain ⟨q,us,rfl,g1,g2,g3,g4⟩ := r
        exact ⟨q,us,rfl,g1,g2.mono hle,(if_neg fun z : q = p => ne ((show j = k from hr).symm.trans (Option.some.inj (g3.symm.trans (z ▸ h3))))).trans g3,g4⟩
  · have z := a.fr.off b hb
    have hb : b ≠ p := fun q => noneE (z.2.1.symm.trans (q ▸ h3))
    exact ⟨(Fz.add_ne hb).trans z.1,(if_neg hb).trans z.2.1⟩
  · obtain ⟨hb,q⟩ := hO b j q
    obtain ⟨z1,z2,z3⟩ := a.fr.own b j q
    exact ⟨z1,(Fz.add_ne hb).trans z2,z3⟩
theorem stm_fz {i : Nat} {x : Str} {es : List Stmt} {r : Ss} (hv : IsVar F i x) (hr : SSs F es r) : SSs F es (.cons (.fz i) r) := fun ρ O σ q a h =>
  bindE h fun q1 e1 h => bindE e1 fun l e2 e1 => by
    cases Option.some.inj e1
    obtain ⟨Φ1,O1,x1,a1⟩ := freeze_own a hv e2
    exact wpAny_mono (hr _ O1 ⟨Φ1,σ.s⟩ q a1 h) (fun f s2 h2 => SPost.back x1 h2) fun _ _ q => q
end
end
section
set_option genInjectivity false
set_option genSizeOfSpec false
noncomputable def swapNames (K : Kd) (line : Nat) (ts : List Expr) : List Str := ts.filterMap fun
  | .Name id pos => if K id == some .local && pos.line == line then some id else none
  | _ => none
noncomputable def firstLine (ts : List Expr) : Nat := (ts.head?.map (·.pos.line)).getD 0
noncomputable def swapped (K : Kd) (ts vs : List Expr) : Bool :=
  (ts.length == 2 || ts.length == 3) && (vs.length == ts.length && ((!(vs.any fun | .Starred .. => true | _ => false)) &&
  ((swapNames K (firstLine ts) ts).length == ts.length && ((swapNames K (firstLine ts) ts).eraseDups.length == (swapNames K (firstLine ts) ts).length &&
  !vs.all (foldedForSure 8)))))
section
variable {F : Fx} {ρ ρ' : Loc} {O O1 O2 : Ow} {σ σ1 σ2 : St}
theorem stores_eq {env : Env} {K : Kd} (hK : env.kindOf = K) {ts vs : List Expr} {a b pa pb} :
    swappedStores [.Tuple ts a pa] (.Tuple vs b pb) env = (if (!(ts.length == 2 || ts.length == 3) || vs.length != ts.length || env.blockKind != .function) = true then pure none
      else if (vs.any fun | .Starred .. => true | _ => false) = true then pure none
      else if ((swapNames K (firstLine ts) ts).length != ts.length || (swapNames K (firstLine ts) ts).eraseDups.length != (swapNames K (firstLine ts) ts).length) = true then pure none
      else if vs.all (foldedForSure 8) = true then pure none
      else if vs.all (constantsAlone 8) = true then (do let _ <- (unsupported "assign.tuple-of-constant-expressions:order-of-the-stores" : Sem PUnit); pure (some (swapNames K (firstLine ts) ts)))
      else pure (some (swapNames K (firstLine ts) ts))) := by
  subst hK
  rfl
theorem stores_tuple {env : Env} {K : Kd} (hK : ∀ y,env.kindOf y = K y) (hk : env.blockKind = .function) {ts vs : List Expr} {a b pa pb} (hok : (!swapped K ts vs || !vs.all (constantsAlone 8)) = true) :
    swappedStores [.Tuple ts a pa] (.Tuple vs b pb) env = pure (if swapped K ts vs = true then some (swapNames K (firstLine ts) ts) else none) := by
  rw [stores_eq (funext hK),hk]
  unfold swapped at hok ⊢
  unfold bne
  generalize (ts.length == 2 || ts.length == 3) = q1 at hok ⊢
  generalize (vs.length == ts.length) = q2 at hok ⊢
  generalize (vs.any fun | .Starred .. => true | _ => false) = q3 at hok ⊢
  generalize ((swapNames K (firstLine ts) ts).length == ts.length) = q4 at hok ⊢
  generalize ((swapNames K (firstLine ts) ts).eraseDups.length == (swapNames K (firstLine ts) ts).length) = q5 at hok ⊢
  generalize vs.all (foldedForSure 8) = q6 at hok ⊢
  generalize vs.all (constantsAlone 8) = q7 at hok ⊢
  generalize swapNames K (firstLine ts) ts = w
  cases q1 with
  | false => rfl
  | true => cases q2 with
    | false => rfl
    | true => cases q3 with
      | true => rfl
      | false => cases q4 with
        | false => rfl
        | true => cases q5 with
          | false => rfl
          | true => cases q6 with
            | true => rfl
            | false => cases q7 with
              | false => rfl
              | true => cases hok
theorem stores_none {tg e : Expr} {env : Env} (ht : (∃ x p,tg = .Name x p) ∨ (∃ es k p,tg = .Tuple es k p) /\ ∀ vs k p,e ≠ .Tuple vs k p) : swappedStores [tg] e env = pure none := by
  rcases ht with ⟨x,p,rfl⟩ | ⟨⟨es,k,p,rfl⟩,h⟩
  · rfl
  · cases e <;> first | rfl | exact absurd rfl (h _ _ _)
theorem go_comm : ∀ {is : List Nat} {ds : List V} {ρ : Loc} {i : Nat} {e : Option D},i ∉ is -> bindT.go is ds (ρ.set i e) = (bindT.go is ds ρ).map (·.set i e)
  | [],[],ρ,i,e,_ => rfl
  | [],_ :: _,_,_,_,_ => rfl
  | _ :: _,[],_,_,_,_ => rfl
  | j :: is,d :: ds,ρ,i,e,hi => by
    show (if j < (ρ.set i e).length then bindT.go is ds ((ρ.set i e).set j (some (.v d))) else none) = (if j < ρ.length then bindT.go is ds (ρ.set j (some (.v d))) else none).map (·.set i e)
    rw [List.length_set]
    by_cases hj : j < ρ.length
    · rw [if_pos hj,if_pos hj,List.set_comm _ _ (fun q => hi (List.mem_cons.mpr (.inl q))),go_comm fun q => hi (.tail _ q)]
    · rw [if_neg hj,if_neg hj]; rfl
theorem go_len : ∀ {is : List Nat} {ds : List V} {ρ ρ' : Loc},bindT.go is ds ρ = some ρ' -> ρ'.length = ρ.length
  | [],[],_,_,h => Option.some.inj h ▸ rfl
  | [],_ :: _,_,_,h => noneE h
  | _ :: _,[],_,_,h => noneE h
  | j :: is,d :: ds,ρ,ρ',h => iteE h fun _ h => (go_len h).trans List.length_set
theorem go_snoc : ∀ {is : List Nat} {ds : List V} {ρ ρ1 : Loc} {i : Nat} {d : V},bindT.go is ds ρ = some ρ1 -> i < ρ1.length -> bindT.go (is ++ [i]) (ds ++ [d]) ρ = some (ρ1.set i (some (.v d)))
  | [],[],ρ,ρ',i,d,h,hi => by cases Option.some.inj h; exact if_pos hi
  | [],_ :: _,_,_,_,_,h,_ => noneE h
  | _ :: _,[],_,_,_,_,h,_ => noneE h
  | j :: is,d' :: ds,ρ,ρ',i,d,h,hi => iteE h fun hj h => (if_pos hj).trans (go_snoc h hi)
theorem go_rev : ∀ {is : List Nat} {ds : List V} {ρ ρ' : Loc},is.Nodup -> bindT.go is ds ρ = some ρ' -> bindT.go is.reverse ds.reverse ρ = some ρ'
  | [],[],_,_,_,h => h
  | [],_ :: _,_,_,_,h => noneE h
  | _ :: _,[],_,_,_,h => noneE h
  | j :: is,d :: ds,ρ,ρ',hn,h => iteE h fun hj h => mapE ((go_comm (List.nodup_cons.mp hn).1).symm.trans h) fun ρ1 h1 e => by
    rw [List.reverse_cons,List.reverse_cons,<- e]
    exact go_snoc (go_rev (List.nodup_cons.mp hn).2 h1) (by rw [go_len h1]; exact hj)
theorem swap_tgts {line : Nat} : ∀ {is : List Nat} {ts : List Expr},TgL F is ts -> (swapNames F.K line ts).length = ts.length -> ∀ i x,(i,x) ∈ is.zip (swapNames F.K line ts) -> IsTgt F i x
  | _,_,.nil,_ => fun _ _ h => nomatch h
  | _,_,.cons (i:=i) (x:=x) (p:=p) (is:=is) (es:=ts) h r,hl => by
    have hle : (swapNames F.K line ts).length ≤ ts.length := List.length_filterMap_le _ _
    by_cases hx : (F.K x == some .local && p.line == line) = true
    · have e : swapNames F.K line (.Name x p :: ts) = x :: swapNames F.K line ts := List.filterMap_cons_some (if_pos hx)
      rw [e] at hl ⊢
      intro j y q
      rcases List.mem_cons.mp q with q | q
      · cases q; exact h
      · exact swap_tgts r (Nat.succ.inj hl) j y q
    · have e : swapNames F.K line (.Name x p :: ts) = swapNames F.K line ts := List.filterMap_cons_none (if_neg hx)
      rw [e] at hl
      exact absurd (hl ▸ hle) (Nat.not_succ_le_self _)
theorem zip_rev {α β : Type} : ∀ {xs : List α} {ys : List β},xs.length = ys.length -> xs.reverse.zip ys.reverse = (xs.zip ys).reverse
  | [],[],_ => rfl
  | x :: xs,y :: ys,h => by
    have hl : xs.length = ys.length := Nat.succ.inj h
    rw [List.reverse_cons,List.reverse_cons,List.zip_cons_cons,List.reverse_cons,List.zip_append (by rw [List.length_reverse,List.length_reverse,hl]),zip_rev hl]
    rfl
structure St1 (F : Fx) (ρ' : Loc) (O : Ow) (σ : St) (v : Value) (σ1 : St) (O2 : Ow) (σ2 : St) : Prop where
  st : Step F NoX O σ O2 σ2
  ow : ∀ a i,O2 a = some i -> O a = some i ∨ v = .ref a
  a : Ok F ρ' O2 σ2
  keep : ∀ b o,σ1.s.heap.get? b = some o -> b ∉ F.c.T -> ¬ Mut F.env b -> σ2.s.heap.get? b = some o
  nf : ∀ b,σ1.Φ b = none -> v ≠ .ref b -> σ2.Φ b = none
noncomputable def StOk (F : Fx) (ρ ρ' : Loc) (O : Ow) (σ : St) (d : D) (t : Value -> Sem Unit) : Prop :=
  ∀ σ1 v,Sp F.c σ σ1 -> Rp F.c O σ σ1 d v -> Ok F ρ O σ1 -> F.W (t v) (fun _ s2 => ∃ Φ2 O2,St1 F ρ' O σ v σ1 O2 ⟨Φ2,s2⟩) σ1.s
theorem Step.store {is : List Nat} (w1 : Sp F.c σ σ1) (w2 : Spx F.c (XT F.τ F.env is) σ1 σ2) (a : Ok F ρ' O2 σ2) (ho : ∀ a i,O2 a = some i -> O a = some i ∨ σ.s.heap.get? a = none) : Step F NoX O σ O2 σ2 where
  w := Wd.trans (Wd.any w1) w2 fun b hb => .inl (.inr (.inl (XT_mut hb)))
  up b _ e := (Classical.em (XT F.τ F.env is b)).elim (fun hx => let ⟨o,eo⟩ := a.fr.alive (XT_mut hx); eo ▸ rfl) fun hx => Wd.grow w2 b hx (Wd.up w1 b e)
  ow a i e := (ho a i e).imp id .inl
theorem st_asg (N : Nm F.τ) {t : Tgt} {tg : Expr} {d : D} {z : V} (a : Ok F ρ O σ) (hc : Tg F t tg) (hz : d.fz = some z) (e : bindT t z ρ = some ρ') : StOk F ρ ρ' O σ d (assign tg F.env) := fun σ1 v w1 r1 a1 =>
  let ⟨Φ2,w2,le,r2,nf⟩ := freeze1 w1 r1 hz
  have a2 : Ok F ρ O ⟨Φ2,σ1.s⟩ := a.next w2 a1.t
  GoU.then (σ:=⟨Φ2,σ1.s⟩) a2 (bind_sound (σ:=⟨Φ2,σ1.s⟩) N hc a2 r2 e) fun _ s2 w3 a3 => ⟨Φ2,O,.store w2 w3 a3 fun a i e => .inl e,fun _ _ e => .inl e,a3,fun b o e hT hM => Wd.pres w3 b o e hT fun q => hM (XT_mut q),nf⟩
theorem st_own (N : Nm F.τ) {i : Nat} {x : Str} {pos : Pos} {l : List V} (a : Ok F ρ O σ) (ht : IsTgt F i x) : StOk F ρ (ρ.set i (some (.o i l))) O σ (.t l) (assign (.Name x pos) F.env) := fun σ1 v w1 r1 a1 => by
  obtain ⟨p,vs,rfl,⟨m,g1⟩,g2,g3,g4,g5⟩ := r1
  have fp := fresh_all a.fr a.k g5
  let O2 : Ow := fun b => if b = p then some i else if O b = some i then none else O b
  have hO2p : O2 p = some i := if_pos rfl
  have hO2 : ∀ b j,O2 b = some j -> (b = p /\ j = i) ∨ (b ≠ p /\ O b = some j /\ j ≠ i) := fun b j q => by
    by_cases hb : b = p
    · exact .inl ⟨hb,(Option.some.inj ((show O2 b = some i from if_pos hb).symm.trans q)).symm⟩
    · rw [show O2 b = _ from if_neg hb] at q
      by_cases hi : O b = some i
      · rw [if_pos hi] at q; exact noneE q
      · rw [if_neg hi] at q; exact .inr ⟨hb,q,fun r => hi (r ▸ q)⟩
  have hO2n : ∀ b j,O b = some j -> j ≠ i -> O2 b = some j := fun b j q hj => (if_neg fun z : b = p => noneE (fp.2.1.symm.trans (z ▸ q))).trans ((if_neg fun r => hj (Option.some.inj (q.symm.trans r))).trans q)
  have a2 : Ok F (ρ.set i none) O2 σ1 := ⟨a.K,a.R,a1.fr.re (fun _ _ _ e => e) (fun k d' e3 => ?_) (fun b hb => ?_) (fun b j q => ?_) (fun b1 b j e1 e2 => ?_),a1.k,a1.t⟩
  · refine wpAny_assign_Name (GoU.then a2 (store_var N a2 ht (d:=.o i l) ⟨p,vs,rfl,⟨m,g1⟩,g2,hO2p,g4⟩ rfl) fun _ s2 w3 a3 => ?_)
    rw [List.set_set] at a3
    have w3' : Spx F.c (XT F.τ F.env [i]) σ1 ⟨σ1.Φ,s2⟩ := Wd.weak w3 fun b hb => .inl (XN_XT (.head _) ht.1 hb)
    have ow : ∀ b j,O2 b = some j -> O b = some j ∨ Value.ref p = .ref b := fun b j e => (hO2 b j e).elim (fun q => .inr (congrArg _ q.1.symm)) fun q => .inl q.2.1
    exact ⟨σ1.Φ,O2,.store w1 w3' a3 fun b j e => (hO2 b j e).elim (fun q => .inr (q.1 ▸ g5)) fun q => .inl q.2.1,ow,a3,fun b o e hT hM => Wd.pres w3' b o e hT fun q => hM (XT_mut q),fun b e _ => e⟩
  · obtain ⟨ne,e4⟩ := set_none e3
    refine ⟨d',e4,fun v r hr => ⟨?_,hr⟩⟩
    cases d' with
    | v d => exact r
    | t l => exact hr.elim
    | o j l' => exact let ⟨q,us,e,h1,h2,h3,h4⟩ := r; ⟨q,us,e,h1,h2,hO2n q j h3 fun z => ne ((show j = k from hr).symm.trans z),h4⟩
  · have z := a1.fr.off b hb
    refine ⟨z.1,?_⟩
    cases q : O2 b with
    | none => rfl
    | some j => exact (hO2 b j q).elim (fun r => (a.alive g5 (r.1 ▸ hb)).elim) fun r => noneE (z.2.1.symm.trans r.2.1)
  · exact (hO2 b j q).elim (fun r => r.1 ▸ ⟨⟨_,g1⟩,g3,g4⟩) fun r => a1.fr.own b j r.2.1
  · rcases hO2 b1 j e1 with r1 | r1 <;> rcases hO2 b j e2 with r2 | r2
    · exact r1.1.trans r2.1.symm
    · exact absurd r1.2 r2.2.2
    · exact absurd r2.2 r1.2.2
    · exact a.fr.uni b1 b j r1.2.1 r2.2.1
theorem St1.post {v : Value} {s2 : Shared} (h : ∃ Φ2 O2,St1 F ρ' O σ v σ1 O2 ⟨Φ2,s2⟩) : SPost F NoX O σ (.next,ρ') .next s2 := let ⟨_,_,h⟩ := h; SPost.next h.st h.a
theorem asg_plain {e tg : Expr} {pos : Pos} {x : X} {d : D} (a : Ok F ρ O σ) (hx : SE F e x) (ev : evE F.ε x ρ = some d) (hs : swapsWithSole [tg] e pos.line F.env = pure false) (hone : (assignEach [tg] F.env).map (·.2) = [assign tg F.env]) (hsw : swappedStores [tg] e F.env = pure none) (st : StOk F ρ ρ' O σ d (assign tg F.env)) :
    F.W (exec (.Assign [tg] e pos) F.env) (SPost F NoX O σ (.next,ρ')) σ.s :=
  wpAny_Assign_stores ((hx ρ O σ d a ev).then a fun v σ1 w1 r1 a1 => by
    rw [hone]
    exact wpAny_mono (st σ1 v w1 r1 a1) (fun _ s2 h2 => St1.post h2) fun _ _ q => q) hs hsw
theorem asg_comp (N : Nm F.τ) {elt tg : Expr} {gens : List Comprehension} {sc : Scope} {p pos : Pos} {gs : Gs} {d : D} (a : Ok F ρ O σ) (hc : CompCl F (kinds sc.names F.K) gs gens elt) (hsc : CompScope F.τ F.K gs.ids sc) (ev : evE F.ε (.comp gs) ρ = some d) (hone : (assignEach [tg] F.env).map (·.2) = [assign tg F.env]) (hsw : swappedStores [tg] (.ListComp elt gens sc p) F.env = pure none) (st : StOk F ρ ρ' O σ d (assign tg F.env)) (htg : ∃ x p1,tg = .Name x p1) :
    F.W (exec (.Assign [tg] (.ListComp elt gens sc p) pos) F.env) (SPost F NoX O σ (.next,ρ')) σ.s := by
  obtain ⟨b,hs⟩ : ∃ b,swapsWithSole [tg] (.ListComp elt gens sc p) pos.line F.env = pure b := by obtain ⟨x1,p1,rfl⟩ := htg; exact ⟨_,rfl⟩
  cases b with
  | false => exact asg_plain a (core_comp N hc hsc) ev hs hone hsw st
  | true =>
    refine bindE ev fun vs e1 ev => iteE ev fun hl ev => ?_
    cases Option.some.inj ev
    rw [exec_Assign_arm]
    refine wpAny_bind (wpAny_standAt ?_)
    rw [hs]
    refine wpAny_bind (wpAny_pure ?_)
    rw [if_pos rfl,hone]
    refine wpAny_bind ?_
    show F.W (do let _ <- comprehension (.ListComp elt gens sc p) sc F.env (firstIterPos gens p) (newList []) (firstAsync gens) (firstIter gens F.env) (some fun v => assignAll v [assign tg F.env])) _ σ.s
    refine wpAny_bind (wpAny_mono (comp_sound (Q:=fun _ s' => SPost F NoX O σ (.next,ρ') .next s') N hc hsc a e1 hl (use:=some fun v => assignAll v [assign tg F.env]) fun σ1 D C M => ?_) (fun _ s' hq => wpAny_pure (wpAny_pure hq)) fun _ _ q => q)
    show F.W (assign tg F.env (.ref D)) _ σ1.s
    obtain ⟨us,hp,rs⟩ := M.row
    refine wpAny_mono (st σ1 (.ref D) M.w ⟨D,us,rfl,hp,rs,M.fz,M.tab,M.new⟩ (a.next M.w M.t)) (fun _ s2 ⟨Φ2,O2,h2⟩ => ?_) fun _ _ q => q
    have fC := fresh_all a.fr a.k M.cnew
    have hCM := a.alive M.cnew
    have hDC : (Value.ref D) ≠ .ref C := fun q => M.ne (by cases q; rfl)
    have hO2 : O2 C = none := by
      cases q : O2 C with
      | none => rfl
      | some j => exact (h2.ow C j q).elim (fun r => noneE (fC.2.1.symm.trans r)) fun r => absurd r hDC
    obtain ⟨m,hm⟩ := M.ns
    refine ⟨m,hm.at' fun o e => h2.keep C o e M.ctab hCM,fun h' hs' => ?_⟩
    have w5 : Spx F.c (fun b => b = C) ⟨Φ2,s2⟩ ⟨Φ2,{ s2 with heap := h' }⟩ := Wd.write (tk:=s2.toks) h2.a.k (fun b o e hb => hs'.extBut b o hb e) fun b hb => hb ▸ ⟨h2.nf C M.cfz hDC,M.ctab⟩
    have x5 : Step F (fun b => b = C) O2 ⟨Φ2,s2⟩ O2 ⟨Φ2,{ s2 with heap := h' }⟩ := ⟨Wd.weak w5 fun b hb => .inl (.inl hb),fun b hb e => Wd.grow w5 b hb e,fun _ _ e => .inl e⟩
    exact SPost.weak (SPost.next ((h2.st.weak fun _ h => h.elim).trans x5) (h2.a.with w5 (h2.a.fr.step w5 fun b hb => hb ▸ ⟨hCM,hO2⟩) h2.a.t)) fun b hb => .inr (hb ▸ M.cnew)
theorem stm_own (N : Nm F.τ) {i : Nat} {y : Str} {e : Expr} {p pos : Pos} {x : X} (ht : IsTgt F i y) (hx : AllE F e x) : SS F (.Assign [.Name y p] e pos) (.own i x) := fun ρ O σ q a h =>
  bindE h fun d e1 h => by
    have key : ∃ l,d = .t l /\ q = (.next,ρ.set i (some (.o i l))) := by
      cases d with
      | v d => exact noneE h
      | o i l => exact noneE h
      | t l => exact iteE h fun _ h => ⟨l,rfl,(Option.some.inj h).symm⟩
    obtain ⟨l,rfl,rfl⟩ := key
    have sn := stores_none (tg:=.Name y p) (e:=e) (env:=F.env) (.inl ⟨_,_,rfl⟩)
    rcases hx.p.so with hs | ⟨elt,gens,sc,p1,gs,rfl,rfl,hc,hsc⟩
    · exact asg_plain a hx.e e1 (hs _ _ _) rfl sn (st_own N a ht)
    · exact asg_comp N a hc hsc e1 rfl sn (st_own N a ht) ⟨_,_,rfl⟩
theorem asg_fz {t : Tgt} {x : X} {ρ : Loc} {q : Fl × Loc} {P : Prop} (h : evS F.ε (.asg t x) ρ = some q) (k : ∀ d z ρ',evE F.ε x ρ = some d -> d.fz = some z -> bindT t z ρ = some ρ' -> q = (.next,ρ') -> P) : P :=
  bindE h fun d e1 h => bindE h fun z e2 h => mapE h fun ρ' e3 h => k d z ρ' e1 e2 e3 h.symm
theorem stm_asgN (N : Nm F.τ) {i : Nat} {y : Str} {e : Expr} {p pos : Pos} {x : X} (ht : IsTgt F i y) (hx : AllE F e x) : SS F (.Assign [.Name y p] e pos) (.asg (.n i) x) := fun ρ O σ q a h => asg_fz h fun d z ρ' e1 e2 e3 h => by
  subst h
  have sn := stores_none (tg:=.Name y p) (e:=e) (env:=F.env) (.inl ⟨_,_,rfl⟩)
  rcases hx.p.so with hs | ⟨elt,gens,sc,p1,gs,rfl,rfl,hc,hsc⟩
  · exact asg_plain a hx.e e1 (hs _ _ _) rfl sn (st_asg N a (.n ht) e2 e3)
  · exact asg_comp N a hc hsc e1 rfl sn (st_asg N a (.n ht) e2 e3) ⟨_,_,rfl⟩
theorem stm_asgT (N : Nm F.τ) {is : List Nat} {es : List Expr} {k : Nat} {e : Expr} {p pos : Pos} {x : X} (ht : TgL F is es) (hx : AllE F e x) (hs : ∀ tg line env,swapsWithSole [tg] e line env = pure false) (hn : ∀ vs k p,e ≠ .Tuple vs k p) : SS F (.Assign [.Tuple es k p] e pos) (.asg (.t is) x) := fun ρ O σ q a h => asg_fz h fun d z ρ' e1 e2 e3 h => by
  subst h
  exact asg_plain a hx.e e1 (hs _ _ _) rfl (stores_none (.inr ⟨⟨_,_,_,rfl⟩,hn⟩)) (st_asg N a (.t ht) e2 e3)
theorem stm_asgTT (N : Nm F.τ) {is : List Nat} {es vs : List Expr} {k k2 : Nat} {p p2 pos : Pos} {xs : Xs} (ht : TgL F is es) (hx : SE F (.Tuple vs k2 p2) (.tup xs)) (hok : (!swapped F.K es vs || !vs.all (constantsAlone 8)) = true) (hnd : is.Nodup) : SS F (.Assign [.Tuple es k p] (.Tuple vs k2 p2) pos) (.asg (.t is) (.tup xs)) := fun ρ O σ q a h => asg_fz h fun d z ρ' e1 e2 e3 h => by
  subst h
  have hw := stores_tuple (a:=k) (b:=k2) (pa:=p) (pb:=p2) a.K (show F.env.blockKind = .function by unfold Env.blockKind; rw [a.fr.kind]; rfl) hok
  cases hS : swapped F.K es vs with
  | false =>
    rw [hS] at hw
    exact asg_plain a hx e1 rfl rfl hw (st_asg N a (.t ht) e2 e3)
  | true =>
    rw [hS] at hw
    obtain ⟨l,rfl⟩ : ∃ l,d = .v (.tup l) := bindE e1 fun ds _ e1 => bindE e1 fun zs _ e1 => iteE e1 fun _ e1 => ⟨zs,(Option.some.inj e1).symm⟩
    cases Option.some.inj e2
    have hnl : (swapNames F.K (firstLine es) es).length = es.length := by
      unfold swapped at hS
      exact eq_of_beq (Bool.and_eq_true_iff.mp (Bool.and_eq_true_iff.mp (Bool.and_eq_true_iff.mp (Bool.and_eq_true_iff.mp hS).2).2).2).1
    have htg := swap_tgts (line:=firstLine es) ht hnl
    have hln : (swapNames F.K (firstLine es) es).length = is.length := hnl.trans ht.length.symm
    rw [exec_Assign_arm]
    refine wpAny_bind (wpAny_standAt ?_)
    rw [show swapsWithSole [.Tuple es k p] (.Tuple vs k2 p2) pos.line F.env = pure false from rfl]
    refine wpAny_bind (wpAny_pure ?_)
    rw [if_neg (by decide)]
    refine wpAny_bind ((hx ρ O σ _ a e1).then a fun v σ1 w1 r1 a1 => ?_)
    rw [hw]
    refine wpAny_bind (wpAny_pure ?_)
    show F.W (do rule "assign.swapped-stores"; let items <- unpackItems v (swapNames F.K (firstLine es) es).length none; assignInOrder ((swapNames F.K (firstLine es) es).reverse.map fun n => bindName F.env n) items.reverse; pure Flow.next) _ σ1.s
    refine wpAny_bind (wpAny_rule ?_)
    obtain ⟨p,o,us,m,rfl,g1,g2,g3,g4⟩ := Rep.tup_inv r1
    have hlen : us.size = (swapNames F.K (firstLine es) es).length := by rw [hln,bindgo_length e3,<- g4.length,Array.length_toList]
    rw [<- hlen]
    refine wpAny_bind (wpAny_unpackItems_tuple a.R.1 ⟨o,a1.k.inn _ _ g1,g2,m,g3⟩ fun h' hx => ?_)
    have w2 : Sp F.c σ1 ⟨σ1.Φ,{ σ1.s with heap := h' }⟩ := Wd.keep (tk:=σ1.s.toks) a1.k fun b o q => hx b o (Nat.ne_of_lt (Heap.lt_size q)) q
    have a2 := a1.next w2 a1.t
    refine wpAny_bind (GoU.then a2 (names_sound (F:=F) (σ:=σ1) N (all:=is) (f:=fun x v => bindName F.env x v) (g:=fun x => x) (fun x v s Q h => wpAny_bindName h) (fun i x q => ?_) (by rw [List.length_reverse,List.length_reverse,hln]) a2 g4.reverse (go_rev hnd e3)) fun _ s2 w3 a3 => wpAny_pure (SPost.next (.store (w1.to w2) w3 a3 fun _ _ e => .inl e) a3))
    rw [zip_rev hln.symm,List.mem_reverse] at q
    exact ⟨htg i x q,(List.of_mem_zip q).1⟩
end
end
section
set_option genInjectivity false
set_option genSizeOfSpec false
set_option backward.match.sparseCases false
section
variable {F : Fx} {ρ ρ' : Loc} {O O1 O2 : Ow} {σ σ1 σ2 : St}
theorem op_inpInt {op : Operator} {a b z : Int} {t u : Tok} (k : OkS F.c σ.Φ σ.s) (e : binInt op a b = some z) :
    F.W (inplaceOp op (.int a t) (.int b u)) (PostD F.c O σ.Φ σ.s (.v (.int z))) σ.s := by
  cases op with
  | Add => cases e; exact iadd_int (post_int k)
  | Sub => cases e; exact isub_int (post_int k)
  | Mult => exact iteE e fun h e => by cases e; exact imul_int (post_int k) (mulOk h)
  | FloorDiv => exact iteE e fun h e => by cases e; exact ifloordiv_int h.1 (post_int k) (.inl (pylong h.2))
  | Mod => exact iteE e fun h e => by cases e; exact AutoIntOps.imod_1 (by simpa using h) (post_int k)
  | Pow => exact iteE e fun h e => by cases e; exact ipow_int h.1 h.2 (post_int k)
  | LShift => exact iteE e fun h e => by cases e; exact ilshift_int h.1 h.2 (post_int k)
  | RShift => exact iteE e fun h e => by cases e; exact irshift_int h (post_int k)
  | BitOr => cases e; exact ior_int (post_int k)
  | BitXor => cases e; exact ixor_int (post_int k)
  | BitAnd => cases e; exact iand_int (post_int k)
  | MatMult => exact noneE e
  | Div => exact noneE e
theorem IsVar.of {i : Nat} {x : Str} (h : IsTgt F i x) (d : (x == ("__debug__" : Str)) = false) (c : (x == ("__classdict__" : Str)) = false) : IsVar F i x := ⟨h.1,h.2.imp id .inl,d,c⟩
theorem stm_aug (N : Nm F.τ) {i : Nat} {y : Str} {op : Operator} {e : Expr} {p pos : Pos} {x : X} (ht : IsTgt F i y) (hv : IsVar F i y) (hx : SE F e x) : SS F (.AugAssign (.Name y p) op e pos) (.aug i op x) := fun ρ O σ q a h =>
  bindE h fun o1 e1 h => bindE h fun d1 e0 h => bindE h fun i1 e2 h => bindE h fun d2 e3 h => bindE h fun i2 e4 h => mapE h fun z e5 hq => by
    subst e0
    subst hq
    cases D.intE e2
    refine wpAny_AugAssign_Name (load_var a hv e1 fun v r _ => ?_)
    obtain ⟨t,rfl⟩ := Rep.int_inv r
    refine (hx ρ O σ d2 a e3).then a fun v σ1 w1 r1 a1 => r1.int e4 (P:=fun v => F.W (inplaceOp op _ v) _ _) fun u => ?_
    refine Go.then (O:=O) a1 (withToks a1.t (op_inpInt (O:=O) a1.k e5)) fun v σ2 w2 r2 a2 => ?_
    exact GoU.then a2 (store_var N a2 ht (d:=.v (.int z)) r2 trivial) fun _ s3 w3 a3 => SPost.next (.store (w1.to w2) (Wd.weak w3 fun b hb => .inl (XN_XT (is:=[i]) (.head _) ht.1 hb)) a3 fun _ _ e => .inl e) a3
theorem own_write {i : Nat} {l m : List V} {p : Addr} {us : List Value} {s2 : Shared} (a : Ok F ρ O σ) (w1 : Sp F.c σ σ1) (t : 0 < s2.toks) (ho : ρ[i]? = some (some (.o i l))) (hp : O p = some i) (hT : p ∉ F.c.T)
    (hh : ∃ h',s2 = { σ1.s with heap := h',toks := s2.toks } /\ IsPl h' p us /\ ∀ b o,b ≠ p -> σ1.s.heap.get? b = some o -> h'.get? b = some o) (r : Reps σ1.Φ m us) : SPost F NoX O σ (.next,ρ.set i (some (.o i m))) .next s2 := by
  obtain ⟨h',e2,hpl,hk⟩ := hh
  have F1 := a.fr.next w1
  have hpn := (F1.own p i hp).2.1
  have w2 : Spx F.c (fun b => b = p) σ1 ⟨σ1.Φ,s2⟩ := e2 ▸ Wd.write (Wd.ok w1) (fun b o e hb => hk b o hb e) fun b hb => hb ▸ ⟨hpn,hT⟩
  have hheap : s2.heap = h' := by rw [e2]
  rw [<- hheap] at hpl hk
  have hMp : ∀ b,Mut F.env b -> b ≠ p := fun b hb q => noneE ((F1.off b hb).2.1.symm.trans (q ▸ hp))
  have F2 : FrOk F.c F.τ.nm F.env (ρ.set i (some (.o i m))) O σ1.Φ s2 := F1.re (fun b o hb e => hk b o (hMp b hb) e) (fun k d' e3 => by
    rcases set_at e3 with ⟨rfl,rfl⟩ | ⟨ne,e4⟩
    · refine ⟨_,ho,fun v rr _ => ⟨?_,rfl⟩⟩
      obtain ⟨q,vs,rfl,g1,g2,g3,g4⟩ := rr
      cases F1.uni q p _ g3 hp
      exact ⟨p,us,rfl,hpl,r,g3,g4⟩
    · refine ⟨d',e4,fun v rr hr => ⟨?_,hr⟩⟩
      cases d' with
      | v d => exact rr
      | t l => exact hr.elim
      | o j l' =>
        obtain ⟨q,vs,rfl,⟨m',g1⟩,g2,g3,g4⟩ := rr
        exact ⟨q,vs,rfl,⟨m',hk q _ (fun z => ne ((show j = k from hr).symm.trans (Option.some.inj (g3.symm.trans (z ▸ hp))))) g1⟩,g2,g3,g4⟩) (fun b hb => let z := F1.off b hb; ⟨z.1,z.2.1⟩) (fun b j e => by
    obtain ⟨⟨o,eo⟩,z1,z2⟩ := F1.own b j e
    refine ⟨?_,z1,z2⟩
    by_cases hb : b = p
    · exact hb ▸ hpl.some
    · exact ⟨o,hk b o hb eo⟩) F1.uni
  refine ⟨σ1.Φ,O,⟨Wd.trans (Wd.any w1) w2 fun b hb => .inl (.inr (.inr ⟨i,hb ▸ hp⟩)),fun b _ e => ?_,fun _ _ e => .inl e⟩,F2,t⟩
  by_cases hb : b = p
  · obtain ⟨o,eo⟩ := hpl.some
    show (s2.heap.get? b).isSome = true
    rw [hb,eo]; rfl
  · exact Wd.grow w2 b hb (Wd.up w1 b e)
theorem call_own {i : Nat} {y name : Str} {l : List V} {id : String} {p apos cpos pos : Pos} {args : List Expr} {Q : Flow -> Shared -> Prop} (a : Ok F ρ O σ) (hv : IsVar F i y) (ho : ρ[i]? = some (some (.o i l))) (hs : NoStar args) (hl : args.length < 20) (hp : (apos.endLine == cpos.line) = true)
    (f2 : Slot "list" name id) (f3 : typeOf (.builtin id) = pure (.type "method_descriptor"))
    (k : ∀ b vs m,σ.s.heap.get? b = some { cls := .type "list",data := .seq vs.toArray m } -> Reps σ.Φ l vs -> O b = some i -> b ∉ F.c.T -> F.W (callWith cpos (.builtin id) [.ref b] (plain F.env args) []) (fun _ s' => Q .next s') σ.s) :
    F.W (exec (.Expr (.Call (.Attribute (.Name y p) name apos) args [] cpos) pos) F.env) Q σ.s := by
  refine wpAny_Expr_any (wpAny_Call_method_late rfl (few hs hl) hp (hs.back _ _) (wpAny_Name (load_var a hv ho fun v r _ => ?_) hv.d)) (by unfold interactive; rw [a.fr.kind]; rfl) rfl
  obtain ⟨b,vs,rfl,⟨m,g1⟩,g2,g3,g4⟩ := r
  exact ⟨"list",id,PySem.F.plainAttrs_list,f2,f3,⟨_,g1,rfl⟩,(fun _ e => by cases e; exact ⟨_,g1,rfl⟩),k b vs m g1 g2 g3 g4⟩
theorem lim_arr {Φ : Fz} {l : List V} {vs : List Value} (r : Reps Φ l vs) (h : l.length ≤ lim) : vs.toArray.size ≤ sizeLine := lim_line (List.size_toArray.symm ▸ r.length.symm ▸ h)
theorem stm_app {i : Nat} {y : Str} {e : Expr} {p apos cpos pos : Pos} {x : X} (hv : IsVar F i y) (hp : (apos.endLine == cpos.line) = true) (hs : NoStar [e]) (hx : SE F e x) : SS F (.Expr (.Call (.Attribute (.Name y p) ("append" : Str) apos) [e] [] cpos) pos) (.app i x) := fun ρ O σ q a h =>
  bindE h fun d e1 h => bindE h fun z e2 h => bindE h fun l e3 h => iteE h fun hk h => by
    cases Option.some.inj h
    have ho := ownAt_some e3
    refine call_own a hv ho hs (show 1 < 20 by decide) hp PySem.F.slot_list_append PySem.F.type_list_append fun b vs m g1 g2 g3 g4 => P.append_list ((hx ρ O σ d a e1).then a fun v σ1 w1 r1 a1 => ?_)
    obtain ⟨Φ2,w2,le,r2,_⟩ := freeze1 w1 r1 e2
    have g1' := Wd.pres w2 b _ g1 g4 id
    refine ⟨vs.toArray,m,lim_arr g2 hk,g1',own_write (σ1:=⟨Φ2,σ1.s⟩) a w2 a1.t ho g3 g4 (us:=vs ++ [v]) ⟨_,rfl,?_,fun b o hb e => (Heap.SameBut.update ..).extBut b o hb e⟩ ((g2.mono (Wd.le w2)).append (.one r2))⟩
    have := PySem.IsL.update (n:=m) g1' (fun xs => xs.push v)
    rw [List.push_toArray] at this
    exact ⟨_,this⟩
theorem stm_rvs {i : Nat} {y : Str} {p apos cpos pos : Pos} (hv : IsVar F i y) (hp : (apos.endLine == cpos.line) = true) : SS F (.Expr (.Call (.Attribute (.Name y p) ("reverse" : Str) apos) [] [] cpos) pos) (.rvs i) := fun ρ O σ q a h =>
  bindE h fun l e3 h => iteE h fun hk h => by
    cases Option.some.inj h
    have ho := ownAt_some e3
    refine call_own a hv ho (fun _ => rfl) (show 0 < 20 by decide) hp PySem.F.slot_list_reverse PySem.F.type_list_reverse fun b vs m g1 g2 g3 g4 => P.reverse_list g1 ?_ (lim_arr g2 hk)
    refine own_write a (Wd.refl a.k) a.t ho g3 g4 (us:=vs.reverse) ⟨_,rfl,?_,fun b o hb e => (Heap.SameBut.update ..).extBut b o hb e⟩ g2.reverse
    have := PySem.IsL.update (n:=m) g1 (fun x => x.reverse)
    rw [List.reverse_toArray] at this
    exact ⟨_,this⟩
theorem ins_at (vs : List Value) (k : Nat) (hk : k ≤ vs.length) (y : Value) : (vs.toArray.extract 0 k).push y ++ vs.toArray.extract k = (vs.take k ++ y :: vs.drop k).toArray := by
  apply Array.ext'
  simp [List.take_of_length_le]
theorem ins_pl {h : Heap} {p : Addr} {vs : List Value} {m : Nat} {k : Int} {y : Value} (g : h.get? p = some { cls := .type "list",data := .seq vs.toArray m }) (h0 : 0 ≤ k) (hk : k ≤ vs.length) :
    IsPl (h.update p (Obj.mapSeq fun xs => have k' := if k < 0 then (k + (xs.size : Int)).toNat else min k.toNat xs.size; (xs.extract 0 k').push y ++ xs.extract k')) p (vs.take k.toNat ++ y :: vs.drop k.toNat) := by
  have h3 := PySem.IsL.update (n:=m) g (fun xs => have k' := if k < 0 then (k + (xs.size : Int)).toNat else min k.toNat xs.size; (xs.extract 0 k').push y ++ xs.extract k')
  have hn : k.toNat ≤ vs.length := Int.toNat_le.mpr hk
  have e : (if k < 0 then (k + (vs.toArray.size : Int)).toNat else min k.toNat vs.toArray.size) = k.toNat := (if_neg (Int.not_lt.mpr h0)).trans (Nat.min_eq_left (List.size_toArray.symm ▸ hn))
  simp only at h3
  rw [e,ins_at vs k.toNat hn y] at h3
  exact ⟨_,h3⟩
theorem idx_fits {k : Int} (h : -(2 : Int) ^ 63 ≤ k) (h2 : k < 2 ^ 63) : Builtin.List.listFitsIndex k = true := Bool.and_eq_true_iff.mpr ⟨decide_eq_true h,decide_eq_true h2⟩
theorem stm_ins {i : Nat} {y : Str} {e e' : Expr} {p apos cpos pos : Pos} {x x2 : X} (hv : IsVar F i y) (hp : (apos.endLine == cpos.line) = true) (hs : NoStar [e,e']) (hx : SE F e x) (hx2 : SE F e' x2) : SS F (.Expr (.Call (.Attribute (.Name y p) ("insert" : Str) apos) [e,e'] [] cpos) pos) (.ins i x x2) := fun ρ O σ q a h =>
  bindE h fun d e1 h => bindE h fun d2 e2 h => bindE h fun k e4 h => bindE h fun z e5 h => bindE h fun l e3 h => iteE h fun hk h => by
    cases Option.some.inj h
    have ho := ownAt_some e3
    refine call_own a hv ho hs (show 2 < 20 by decide) hp PySem.F.slot_list_insert PySem.F.type_list_insert fun b vs m g1 g2 g3 g4 => ?_
    refine Calls.callWith_builtin (plain_any _ _) (evalArgs_any (Calls.spliced_cons ((hx ρ O σ d a e1).then a fun v σ1 w1 r1 a1 => Calls.spliced_cons ((hx2 ρ O σ1 d2 a1 e2).then a1 fun u σ2 w2 r2 a2 => Calls.spliced_nil ?_))))
    refine r1.int e4 (P:=fun v => F.W (call _ [_,v,u]) _ _) fun t => ?_
    obtain ⟨Φ2,w3,le,r3,_⟩ := freeze1 w2 r2 e5
    have w := w1.to w3
    have g1' := Wd.pres w b _ g1 g4 id
    have hlen := g2.length
    have hkl : k ≤ (2 : Int) ^ 20 := Int.le_trans hk.2.1 (Int.ofNat_le.mpr hk.2.2)
    refine call_meets PySem.F.slot_list_insert ⟨_,g1',rfl⟩ PySem.F.entry_list_insert (PySem.F.args_list_insert_3 _ _ _) (AutoSeq1.list_insert_list_int_val_1 b _ m k t _ (by
      simp [idx_fits (Int.le_trans (by decide) hk.1) (Int.lt_of_le_of_lt hkl (by decide))]) (lim_arr g2 hk.2.2)) ⟨g1',?_⟩
    exact own_write (σ1:=⟨Φ2,σ2.s⟩) a w a2.t ho g3 g4 ⟨_,rfl,ins_pl g1' hk.1 (hlen ▸ hk.2.1),fun b o hb e => (Heap.SameBut.update ..).extBut b o hb e⟩ (((g2.mono (Wd.le w)).take _).append (.cons r3 ((g2.mono (Wd.le w)).drop _)))
theorem Reps.erase {Φ : Fz} : ∀ {l : List V} {vs : List Value},Reps Φ l vs -> ∀ j,Reps Φ (l.eraseIdx j) (vs.eraseIdx j)
  | _,_,.nil,_ => .nil
  | _,_,.cons _ rs,0 => rs
  | _,_,.cons r rs,j + 1 => .cons r (rs.erase j)
theorem place_fits {n j : Nat} {k : Int} (e : place n k = some j) (hn : n ≤ lim) : -(2 : Int) ^ 63 ≤ k /\ k < 2 ^ 63 := by
  unfold place at e
  have hn' : (n : Int) ≤ 2 ^ 20 := Int.ofNat_le.mpr hn
  by_cases h : 0 ≤ k
  · rw [if_pos h] at e
    exact iteE e fun h2 _ => ⟨Int.le_trans (by decide) h,by omega⟩
  · rw [if_neg h] at e
    exact iteE e fun h2 _ => ⟨by omega,by omega⟩
theorem stm_del {i : Nat} {y : Str} {e : Expr} {p p2 pos : Pos} {x : X} (hv : IsVar F i y) (hx : SE F e x) : SS F (.Delete [.Subscript (.Name y p) e p2] pos) (.del i x) := fun ρ O σ q a h =>
  bindE h fun d e1 h => bindE h fun k e2 h => bindE h fun l e3 h => bindE h fun j e4 h => iteE h fun hk h => by
    cases Option.some.inj h
    have ho := ownAt_some e3
    refine wpAny_Delete (wpAny_deleteEach_cons (wpAny_delete_Subscript (wpAny_Name (load_var a hv ho fun v r _ => ?_) hv.d)))
    obtain ⟨b,vs,rfl,⟨m,g1⟩,g2,g3,g4⟩ := r
    refine (hx ρ O σ d a e1).then a fun v σ1 w1 r1 a1 => r1.int e2 (P:=fun v => F.W (delItem _ v) _ _) fun t => ?_
    have g1' := Wd.pres w1 b _ g1 g4 id
    have hb := place_fits e4 hk
    refine P.delItem_list (k:=j) g1' (idx_fits hb.1 hb.2) (by rw [List.size_toArray,g2.length]; exact place_seq e4) (wpAny_deleteEach_nil ?_) (lim_arr g2 hk)
    refine own_write (σ1:=σ1) a w1 a1.t ho g3 g4 (us:=vs.eraseIdx j) ⟨_,rfl,?_,fun b o hb e => (Heap.SameBut.update ..).extBut b o hb e⟩ ((g2.mono (Wd.le w1)).erase j)
    have h3 := PySem.IsL.update (n:=m) g1' (fun xs => xs.eraseIdxIfInBounds j)
    have e : vs.toArray.eraseIdxIfInBounds j = (vs.eraseIdx j).toArray := by simp
    rw [e] at h3
    exact ⟨_,h3⟩
end
end
section
set_option genInjectivity false
set_option genSizeOfSpec false
set_option backward.match.sparseCases false
section
variable {F : Fx} {E : Addr -> Prop} {ρ ρ' : Loc} {O O1 O2 : Ow} {σ σ1 σ2 : St}
noncomputable def LPost (F : Fx) (E : Addr -> Prop) (O : Ow) (σ : St) (q : Fl × Loc) (r : Result) (s' : Shared) : Prop := ∃ f,r = .ok f /\ SPost F E O σ q f s'
theorem LPost.back {q : Fl × Loc} {r : Result} {s' : Shared} (x : Step F E O σ O1 σ1) (h : LPost F E O1 σ1 q r s') : LPost F E O σ q r s' := let ⟨f,e,h⟩ := h; ⟨f,e,SPost.back x h⟩
theorem block_sound {els : Ss} {es : List Stmt} (he : SSs F es els) (a : Ok F ρ O σ) {q : Fl × Loc} (e : evSs F.ε els ρ = some q) : codeAny F.M F.A (.block es F.env) (LPost F NoX O σ q) σ.s := by
  refine codeAny_of_tree ?_
  show wpAny F.M F.A (do return Fin.done (<- (execs es F.env).onRaise (fun x => do noteFrame x F.env; theTreesLotGoes x))) _ _ σ.s
  exact wpAny_bind (wpAny_noted (wpAny_mono (he ρ O σ q a e) (fun f s' h => wpAny_pure ⟨f,rfl,h⟩) fun _ _ q => q.elim))
set_option backward.match.sparseCases true in
noncomputable def finL (ε : Ev) (els : Ss) (q : Fl × Loc) : Option (Fl × Loc) := match q with
  | (.next,ρ') => evSs ε els ρ'
  | (.brk,ρ') => some (.next,ρ')
  | q => some q
theorem for_start {tg : Expr} {it : Value} {bs es : List Stmt} {R : Result -> Shared -> Prop} {s : Shared} (h : F.W (forTurn tg it bs es F.env) (FinQ F R) s) : codeAny F.M F.A (.forLoop tg it bs es F.env) R s := by
  refine codeAny_of_tree ?_
  show wpAny F.M F.A ((forTurn tg it bs es F.env).onRaise (fun x => do noteFrame x F.env; theTreesLotGoes x)) _ _ s
  exact wpAny_noted (wpAny_mono (E:=NoE) h (fun _ _ q => q) fun _ _ q => q.elim)
structure UseF (F : Fx) (Φ0 : Fz) (l : List V) (I : Addr) (fp : List Addr) (P : Nat -> Value -> Prop) (Sv : Nat -> Heap -> Prop) : Prop where
  walks : Walks F.c.prog F.c.w F.A I fp [I] l.length P Sv
  good : ∀ i h,Sv i h -> ∃ o T,h.get? I = some o /\ o.cls = .type T /\ ownIters.contains T = false
  fp : ∀ b ∈ fp,b ∉ F.c.T /\ (b = I ∨ (∃ o,Φ0 b = some o))
  val : ∀ i v,i < l.length -> P i v -> ∃ d,l[i]? = some d /\ Rep Φ0 d v
  off : ¬ Mut F.env I
theorem UseF.use {Φ0 : Fz} {l : List V} {I D : Addr} {fp : List Addr} {P : Nat -> Value -> Prop} {Sv : Nat -> Heap -> Prop} (u : UseF F Φ0 l I fp P Sv) (hO : O I = none) (ne : I ≠ D) : Use F O D Φ0 l I fp P Sv :=
  ⟨u.walks,u.good,fun b hb => ⟨(u.fp b hb).1,(u.fp b hb).2.imp id .inl⟩,u.val,u.off,hO,ne⟩
theorem for_loop (N : Nm F.τ) {t : Tgt} {body els : Ss} {tg : Expr} {bs es : List Stmt} (hb : SSs F bs body) (he : SSs F es els) (hc1 : Tg F t tg) {l : List V} {I : Addr} {fp : List Addr} {P : Nat -> Value -> Prop} {Sv : Nat -> Heap -> Prop} {Φ0 : Fz} (u : UseF F Φ0 l I fp P Sv) :
    ∀ (rest : List V) (i : Nat) (ρ : Loc) (O : Ow) (σ : St) (q : Fl × Loc),l.drop i = rest -> i ≤ l.length -> Ok F ρ O σ -> Φ0.le σ.Φ -> Sv i σ.s.heap -> σ.Φ I = none -> O I = none ->
      (forL (fun d ρ => (bindT t d ρ).bind fun ρ' => evSs F.ε body ρ') rest ρ).bind (finL F.ε els) = some q ->
      codeAny F.M F.A (.forLoop tg (.ref I) bs es F.env) (LPost F (fun b => b = I) O σ q) σ.s := by
  intro rest
  have hI : I ∈ fp := u.walks.sub I (.head _)
  have hne : I ≠ I + 1 := Nat.ne_of_lt (Nat.lt_succ_self I)
  have one : ∀ {ρ : Loc} {O : Ow} {σ : St} {s1 : Shared},Spx F.c (fun b => b = I) σ ⟨σ.Φ,s1⟩ -> Step F (fun b => b = I) O σ O ⟨σ.Φ,s1⟩ := fun w => ⟨Wd.weak w fun b hb => .inl (.inl hb),fun b hb e => Wd.grow w b hb e,fun _ _ e => .inl e⟩
  induction rest with
  | nil =>
    intro i ρ O σ q hl hi a le st fzI hO e
    cases Nat.le_antisymm hi (List.drop_eq_nil_iff.mp hl)
    refine for_start ?_
    unfold forTurn
    refine wpAny_bind (wpAny_standAt (wpAny_bind (wpAny_onRaise (wpAny_mono ((u.use hO hne).end_ a st fzI (Q:=fun r s' => r = none /\ Spx F.c (fun b => b = I) σ ⟨σ.Φ,s'⟩ /\ Ok F ρ O ⟨σ.Φ,s'⟩) fun s' w a1 => ⟨rfl,w,a1⟩) (fun r s' ⟨er,w,a1⟩ => ?_) fun _ _ q => q.elim))))
    subst er
    exact wpAny_pure ⟨rfl,codeAny_mono (block_sound he a1 e) fun r s' h => LPost.back (one (ρ:=ρ) w) (let ⟨f,e,h⟩ := h; ⟨f,e,h.weak fun _ z => z.elim⟩)⟩
  | cons d rest ih =>
    intro i ρ O σ q hl hi a le st fzI hO e
    obtain ⟨hld,hl',hil⟩ := drop_head hl
    refine bindE e fun q0 e1 e => bindE e1 fun q1 e2 e1 => bindE e2 fun ρ' e3 e4 => ?_
    refine for_start ?_
    unfold forTurn
    refine wpAny_bind (wpAny_standAt (wpAny_bind (wpAny_onRaise (wpAny_mono ((u.use hO hne).item_ a le st fzI hil hld (Q:=fun r s' => ∃ v,r = some v /\ Spx F.c (fun b => b = I) σ ⟨σ.Φ,s'⟩ /\ Ok F ρ O ⟨σ.Φ,s'⟩ /\ Sv (i + 1) s'.heap /\ Rep σ.Φ d v) fun v s' w a1 hst rd => ⟨v,rfl,w,a1,hst,rd⟩) (fun r s1 ⟨v,er,w1,a1,hst,rd⟩ => ?_) fun _ _ q => q.elim))))
    subst er
    obtain ⟨o,T,eo,hoc,hoT⟩ := u.good _ _ hst
    refine wpAny_bind (go_noOwned eo hoc hoT (wpAny_bind (GoU.then a1 (bind_sound N hc1 a1 rd e3) fun _ s2 w2 a2 => ?_)))
    have x2 : Step F NoX O ⟨σ.Φ,s1⟩ O ⟨σ.Φ,s2⟩ := .store (σ1:=⟨σ.Φ,s1⟩) (Wd.refl a1.k) w2 a2 fun _ _ e => .inl e
    refine wpAny_bind (wpAny_mono (hb ρ' O ⟨σ.Φ,s2⟩ q1 a2 e4) (fun f s3 h3 => ?_) fun _ _ q => q)
    have x1 := one (ρ:=ρ) (O:=O) w1
    have lift : ∀ {O3 σ3},Step F NoX O ⟨σ.Φ,s2⟩ O3 σ3 -> Step F (fun b => b = I) O σ O3 σ3 := fun x3 => x1.trans ((x2.trans x3).weak fun _ z => z.elim)
    refine SPost.cases a2 h3 (fun O3 σ3 ρ3 es eq ef x3 a3 => ?_) (fun O3 σ3 ρ3 es eq ef x3 a3 => ?_) fun d v eq ef => ?_
    · subst es; subst eq; subst ef
      have x23 := x2.trans x3
      have hnX : ∀ b ∈ fp,¬ (NoX b ∨ XS F.env O b) := fun b hb q => q.elim id fun q => q.elim (fun q => (u.fp b hb).2.elim (fun r => u.off (r ▸ q)) fun ⟨o,eo⟩ => noneE ((a1.fr.off b q).1.symm.trans (le _ _ eo))) fun ⟨j,q⟩ => (u.fp b hb).2.elim (fun r => noneE (hO.symm.trans (r ▸ q))) fun ⟨o,eo⟩ => noneE ((a1.fr.own b j q).2.1.symm.trans (le _ _ eo))
      have hst3 : Sv (i + 1) σ3.s.heap := u.walks.frame _ _ _ hst fun b hb o e => Wd.pres x23.w b o e (u.fp b hb).1 (hnX b hb)
      have hO3 : O3 I = none := by
        cases q : O3 I with
        | none => rfl
        | some j => exact (x23.ow I j q).elim (fun r => noneE (hO.symm.trans r)) fun r => r.elim (fun r => noneE (r.symm.trans eo)) fun r => r.elim
      exact wpAny_pure ⟨rfl,codeAny_mono (ih (i + 1) ρ3 O3 σ3 q hl' hil a3 (le.trans (Wd.le x23.w)) hst3 (Wd.stays x23.w eo fzI (hnX I hI)) hO3 ((congrArg (fun z => z.bind (finL F.ε els)) e1).trans e)) fun r s' h => LPost.back (lift x3) h⟩
    · subst es; subst eq; subst ef
      cases Option.some.inj e1
      cases Option.some.inj e
      exact wpAny_pure ⟨_,rfl,SPost.next (lift x3) a3⟩
    · obtain ⟨fl,ρ3⟩ := q1
      cases eq
      subst ef
      cases Option.some.inj e1
      cases Option.some.inj e
      obtain ⟨Φ3,O3,x3,f3,t3⟩ := h3
      exact wpAny_pure ⟨_,rfl,Φ3,O3,lift x3,f3,t3⟩
theorem stm_for (N : Nm F.τ) {t : Tgt} {x : X} {body els : Ss} {tg iter : Expr} {bs es : List Stmt} {pos : Pos} (hc1 : Tg F t tg) (hset : NotSet iter) (hx : SI F iter x) (hb : SSs F bs body) (he : SSs F es els) : SS F (.For tg iter bs es pos) (.forr t x body els) := fun ρ O σ q a h => by
  have h : (if frozenIt x ρ = false then none else (evI F.ε x ρ).bind fun l => (forL (fun d ρ => (bindT t d ρ).bind fun ρ' => evSs F.ε body ρ') l ρ).bind (finL F.ε els)) = some q := h
  by_cases hf : frozenIt x ρ = false
  · rw [if_pos hf] at h; exact noneE h
  rw [if_neg hf] at h
  refine bindE h fun l e1 h => wpAny_For (wpAny_mono (hx ρ O σ l a e1) (fun v s1 h1 => wpAny_mono h1 (fun i s2 ⟨⟨Φ2,I,fp,P,Sv,ei,w2,hI,hIf⟩,t2⟩ => ?_) fun _ _ q => q) fun _ _ q => q) fun x => hset _ x
  subst ei
  have u : UseF F Φ2 l I fp P Sv := ⟨hI.walks F.A a.R.1,hI.good,fun b hb => let z := hI.fp b hb; ⟨z.1.1,z.2.imp id fun z => z.elim id fun z => absurd z.1 hf⟩,hI.val,a.alive hIf⟩
  refine codeAny_mono (for_loop N hb he hc1 u l 0 ρ O ⟨Φ2,s2⟩ q rfl (Nat.zero_le _) (a.next (σ' := ⟨Φ2,s2⟩) w2 t2) (.refl _) hI.st hI.fzI (a.noOw hIf) h) fun r s' ⟨f,er,h⟩ => ?_
  subst er
  exact SPost.weak (SPost.back (.of (σ1:=⟨Φ2,s2⟩) w2) h) fun b hb => .inr (hb ▸ hIf)
theorem whl_start {t : Expr} {bs : List Stmt} {R : Result -> Shared -> Prop} {s : Shared} (h : F.W (whileTurn t bs [] F.env) (FinQ F R) s) : codeAny F.M F.A (.whileLoop t bs [] F.env) R s := by
  refine codeAny_of_tree ?_
  show wpAny F.M F.A ((whileTurn t bs [] F.env).onRaise (fun x => do noteFrame x F.env; theTreesLotGoes x)) _ _ s
  exact wpAny_noted (wpAny_mono (E:=NoE) h (fun _ _ q => q) fun _ _ q => q.elim)
theorem whl_loop {t : X} {body : Ss} {te : Expr} {bs : List Stmt} (ht : ST F te t) (hb : SSs F bs body) : ∀ (fuel : Nat) (ρ : Loc) (O : Ow) (σ : St) (q : Fl × Loc),Ok F ρ O σ -> whlL (fun ρ => evT F.ε t ρ) (fun ρ => evSs F.ε body ρ) fuel ρ = some q ->
      codeAny F.M F.A (.whileLoop te bs [] F.env) (LPost F NoX O σ q) σ.s := by
  intro fuel
  induction fuel with
  | zero => intro ρ O σ q a h; exact noneE h
  | succ fuel ih =>
    intro ρ O σ q a h
    refine bindE h fun b e1 h => whl_start ?_
    unfold whileTurn
    refine wpAny_bind ((ht ρ O σ b a e1).then a fun σ1 w1 a1 => ?_)
    cases b with
    | false =>
      cases Option.some.inj h
      exact wpAny_bind (wpAny_execs_nil (wpAny_pure ⟨_,rfl,SPost.next (.of w1) a1⟩))
    | true =>
      refine bindE h fun q1 e2 h => wpAny_bind (wpAny_mono (hb ρ O σ1 q1 a1 e2) (fun f s2 h2 => ?_) fun _ _ q => q)
      refine SPost.cases a1 h2 (fun O2 σ2 ρ2 es eq ef x2 a2 => ?_) (fun O2 σ2 ρ2 es eq ef x2 a2 => ?_) fun d v eq ef => ?_
      · subst es; subst eq; subst ef
        exact wpAny_pure ⟨rfl,codeAny_mono (ih ρ2 O2 σ2 q a2 h) fun r s' h => LPost.back ((Step.of w1).trans x2) h⟩
      · subst es; subst eq; subst ef
        cases Option.some.inj h
        exact wpAny_pure ⟨_,rfl,SPost.next ((Step.of w1).trans x2) a2⟩
      · obtain ⟨fl,ρ3⟩ := q1
        cases eq
        subst ef
        cases Option.some.inj h
        exact wpAny_pure ⟨_,rfl,SPost.back (.of w1) h2⟩
theorem stm_whl {fuel : Nat} {t : X} {body : Ss} {te : Expr} {bs : List Stmt} {pos : Pos} (ht : ST F te t) (hb : SSs F bs body) : SS F (.While te bs [] pos) (.whl fuel t body) := fun ρ O σ q a h =>
  wpAny_While (codeAny_mono (whl_loop ht hb fuel ρ O σ q a h) fun r s' ⟨f,e,hh⟩ => by subst e; exact hh)
end
end
section
set_option genInjectivity false
set_option genSizeOfSpec false
set_option backward.match.sparseCases false
section
variable (c : Cx) (τ : Tb) (ε : Ev) (n : Nat)
noncomputable abbrev SndS (K : Kd) (st : Stmt) : Type := { x : S // ∀ A env,SS (fx c τ ε n K A env) st x }
noncomputable abbrev SndSs (K : Kd) (es : List Stmt) : Type := { x : Ss // ∀ A env,SSs (fx c τ ε n K A env) es x }
variable {c τ ε n} {K : Kd}
noncomputable abbrev StoOk (τ : Tb) (K : Kd) (i : Nat) (x : Str) : Prop := TgtOk τ K i x /\ (x == ("__debug__" : Str)) = false /\ (x == ("__classdict__" : Str)) = false
theorem StoOk.is {F : Fx} {i : Nat} {x : Str} (h : StoOk F.τ F.K i x) : IsVar F i x := .of h.1 h.2.1 h.2.2
theorem star1 {F : Fx} {e : Expr} {x : X} (h : AllE F e x) : NoStar [e] := fun env => h.p.ns env []
theorem star2 {F : Fx} {e e' : Expr} {x y : X} (h : AllE F e x) (k : AllE F e' y) : NoStar [e,e'] := fun env => (h.p.ns env [e']).trans (congrArg _ (k.p.ns env []))
noncomputable def asgT (G : Gd c τ ε n) (es : List Expr) (k : Nat) (p pos : Pos) : ∀ v : Expr,Option (SndS c τ ε n K (.Assign [.Tuple es k p] v pos))
  | .Tuple vs k2 p2 => (tgsX c τ ε n K es).bind fun is => (listX (toX G 100 K) vs).bind fun xs => if h : (!swapped K es vs || !vs.all (constantsAlone 8)) = true /\ is.1.Nodup then
      some ⟨.asg (.t is.1) (.tup xs.xs),fun A env => stm_asgTT G.nm (is.2 A env) (core_tup (xs.h A env).ns (xs.h A env).e) h.1 h.2⟩ else none
  | .Call g args kws p2 => (tgsX c τ ε n K es).bind fun is => (toX G 100 K (.Call g args kws p2)).bind fun x => some ⟨.asg (.t is.1) x.1,fun A env => stm_asgT G.nm (is.2 A env) (x.2 A env) (fun _ _ _ => rfl) fun _ _ _ h => by cases h⟩
  | .Subscript e i p2 => (tgsX c τ ε n K es).bind fun is => (toX G 100 K (.Subscript e i p2)).bind fun x => some ⟨.asg (.t is.1) x.1,fun A env => stm_asgT G.nm (is.2 A env) (x.2 A env) (fun _ _ _ => rfl) fun _ _ _ h => by cases h⟩
  | _ => none
noncomputable def asgS (G : Gd c τ ε n) (own : Bool) (v : Expr) (pos : Pos) : ∀ tgs,Option (SndS c τ ε n K (.Assign tgs v pos))
  | [.Name y p] => if h : TgtOk τ K (τ.nm.idxOf y) y then (toX G 100 K v).bind fun x => match own with
      | true => some ⟨.own (τ.nm.idxOf y) x.1,fun A env => stm_own G.nm h (x.2 A env)⟩
      | false => some ⟨.asg (.n (τ.nm.idxOf y)) x.1,fun A env => stm_asgN G.nm h (x.2 A env)⟩ else none
  | [.Tuple es k p] => asgT G es k p pos v
  | _ => none
noncomputable def callS (G : Gd c τ ε n) (y name : Str) (p apos cpos pos : Pos) : ∀ args,Option (SndS c τ ε n K (.Expr (.Call (.Attribute (.Name y p) name apos) args [] cpos) pos))
  | [] => if h : (name = ("reverse" : Str) /\ (apos.endLine == cpos.line) = true) /\ VarOk τ K (τ.nm.idxOf y) y then some ⟨.rvs (τ.nm.idxOf y),fun A env => by obtain ⟨⟨rfl,h1⟩,h2⟩ := h; exact stm_rvs (VarOk.is h2) h1⟩ else none
  | [e] => if h : (name = ("append" : Str) /\ (apos.endLine == cpos.line) = true) /\ VarOk τ K (τ.nm.idxOf y) y then (toX G 100 K e).bind fun x => some ⟨.app (τ.nm.idxOf y) x.1,fun A env => by obtain ⟨⟨rfl,h1⟩,h2⟩ := h; exact stm_app (VarOk.is h2) h1 (star1 (x.2 A env)) (x.2 A env).e⟩ else none
  | [e,e'] => if h : (name = ("insert" : Str) /\ (apos.endLine == cpos.line) = true) /\ VarOk τ K (τ.nm.idxOf y) y then (toX G 100 K e).bind fun x => (toX G 100 K e').bind fun x' => some ⟨.ins (τ.nm.idxOf y) x.1 x'.1,fun A env => by obtain ⟨⟨rfl,h1⟩,h2⟩ := h; exact stm_ins (VarOk.is h2) h1 (star2 (x.2 A env) (x'.2 A env)) (x.2 A env).e (x'.2 A env).e⟩ else none
  | _ => none
noncomputable def exprS (G : Gd c τ ε n) (pos : Pos) : ∀ e,Option (SndS c τ ε n K (.Expr e pos))
  | .Call (.Attribute (.Name y p) name apos) args [] cpos => callS G y name p apos cpos pos args
  | _ => none
noncomputable def delS (G : Gd c τ ε n) (pos : Pos) : ∀ tgs,Option (SndS c τ ε n K (.Delete tgs pos))
  | [.Subscript (.Name y p) e p2] => if h : VarOk τ K (τ.nm.idxOf y) y then (toX G 100 K e).bind fun x => some ⟨.del (τ.nm.idxOf y) x.1,fun A env => stm_del (VarOk.is h) (x.2 A env).e⟩ else none
  | _ => none
noncomputable def augS (G : Gd c τ ε n) (op : Operator) (v : Expr) (pos : Pos) : ∀ tg,Option (SndS c τ ε n K (.AugAssign tg op v pos))
  | .Name y p => if h : StoOk τ K (τ.nm.idxOf y) y then (toX G 100 K v).bind fun x => some ⟨.aug (τ.nm.idxOf y) op x.1,fun A env => stm_aug G.nm h.1 (StoOk.is h) (x.2 A env).e⟩ else none
  | _ => none
noncomputable def S.isOwn : S -> Bool
  | .own _ _ => true
  | _ => false
noncomputable def S.fzAt : S -> Option Nat
  | .fz i => some i
  | _ => none
mutual
noncomputable def toS (G : Gd c τ ε n) (K : Kd) : ∀ (x : S) (st : Stmt),Option (SndS c τ ε n K st)
  | .stop,_ => some ⟨.stop,fun _ _ => stm_stop⟩
  | .ife _ a b,.If e es fs pos => (toX G 100 K e).bind fun t => (toSs G K a es).bind fun a => (toSs G K b fs).bind fun b => some ⟨.ife t.1 a.1 b.1,fun A env => stm_ife (t.2 A env).t (a.2 A env) (b.2 A env)⟩
  | .forr _ _ a b,.For tg iter bs es pos => (tgX c τ ε n K tg).bind fun t => (toX G 100 K iter).bind fun it => (toSs G K a bs).bind fun a => (toSs G K b es).bind fun b => some ⟨.forr t.1 it.1 a.1 b.1,fun A env => stm_for G.nm (t.2 A env) (it.2 A env).p.st (it.2 A env).i (a.2 A env) (b.2 A env)⟩
  | .whl k _ a,.While te bs [] pos => (toX G 100 K te).bind fun t => (toSs G K a bs).bind fun a => some ⟨.whl k t.1 a.1,fun A env => stm_whl (t.2 A env).t (a.2 A env)⟩
  | x,st => match st with
    | .Assign tgs v pos => asgS G x.isOwn v pos tgs
    | .AugAssign tg op v pos => augS G op v pos tg
    | .Return (some e) pos => (toX G 100 K e).bind fun x => some ⟨.ret x.1,fun A env => stm_ret (x.2 A env).e⟩
    | .Break pos => some ⟨.brk,fun _ _ => stm_brk⟩
    | .Expr e pos => exprS G pos e
    | .Delete tgs pos => delS G pos tgs
    | .Assert e m pos => (toX G 100 K e).bind fun x => some ⟨.ast x.1,fun A env => stm_ast (x.2 A env).t⟩
    | _ => none
noncomputable def toSs (G : Gd c τ ε n) (K : Kd) : ∀ (x : Ss) (es : List Stmt),Option (SndSs c τ ε n K es)
  | .nil,[] => some ⟨.nil,fun _ _ => stm_nil⟩
  | .nil,_ :: _ => none
  | .cons s r,es => match s.fzAt with
    | some i => (τ.nm[i]?).bind fun x => if h : VarOk τ K i x then (toSs G K r es).bind fun r => some ⟨.cons (.fz i) r.1,fun A env => stm_fz (VarOk.is h) (r.2 A env)⟩ else none
    | none => match es with
      | [] => none
      | e :: es => (toS G K s e).bind fun x => (toSs G K r es).bind fun r => some ⟨.cons x.1 r.1,fun A env => stm_cons (x.2 A env) (r.2 A env)⟩
end
end
end
section
set_option genInjectivity false
set_option genSizeOfSpec false
noncomputable def plainParams (p : Arguments) : Bool := p.posonlyargs.isEmpty && p.vararg.isNone && p.kwonlyargs.isEmpty && p.kw_defaults.isEmpty && p.kwarg.isNone && p.defaults.isEmpty && decide (p.args.map (·.arg)).Nodup
theorem zip_lookup {names : List Str} {vs : List Value} (h : vs.length = names.length) {x : Str} (hx : x ∈ names) : ((names.zip vs).lookup x).isNone = false := by
  induction names generalizing vs with
  | nil => cases hx
  | cons y r ih =>
    cases vs with
    | nil => cases h
    | cons v vs =>
      rw [List.zip_cons_cons,List.lookup_cons]
      cases q : x == y with
      | true => rfl
      | false =>
        rcases List.mem_cons.mp hx with rfl | hx
        · simp at q
        · exact ih (by simpa using h) hx
theorem fm_congr {α β : Type} {f g : α -> Option β} : ∀ {l : List α},(∀ x ∈ l,f x = g x) -> l.filterMap f = l.filterMap g
  | [],_ => rfl
  | x :: l,h => by rw [List.filterMap_cons,List.filterMap_cons,h x List.mem_cons_self,fm_congr fun y hy => h y (List.mem_cons_of_mem _ hy)]
theorem zip_filterMap {names : List Str} : ∀ {vs : List Value},names.Nodup -> vs.length = names.length -> (names.filterMap fun n => ((names.zip vs).lookup n).map (n,·)) = names.zip vs := by
  induction names with
  | nil => intro vs _ _; rfl
  | cons y r ih =>
    intro vs hn h
    cases vs with
    | nil => cases h
    | cons v vs =>
      rw [List.nodup_cons] at hn
      rw [List.zip_cons_cons,List.filterMap_cons]
      simp only [List.lookup_cons,beq_self_eq_true,Option.map_some]
      congr 1
      have h' : vs.length = r.length := by simpa using h
      refine Eq.trans (fm_congr fun x hx => ?_) (ih hn.2 h')
      have : (x == y) = false := by
        simp only [beq_eq_false_iff_ne,ne_eq]
        rintro rfl
        exact hn.1 hx
      simp only [this]
theorem no_pos {a b : Nat} {c : Bool} (h : a = b) : ¬ ((decide (a > b) && c) = true) := fun q => Nat.lt_irrefl _ (h ▸ of_decide_eq_true (Bool.and_eq_true_iff.mp q).1)
theorem no_miss {l : List Str} {f : Str -> Bool} (h : ∀ x ∈ l,f x = false) {n : Nat} : ¬ ((!((l.take n).filter f).isEmpty) = true) := fun q => by
  have : (l.take n).filter f = [] := List.filter_eq_nil_iff.mpr fun x hx z => Bool.false_ne_true ((h x (List.mem_of_mem_take hx)).symm.trans z)
  rw [this] at q
  exact Bool.false_ne_true q
theorem fm_app {α β : Type} (f : α -> Option β) (l : List α) : List.filterMap f (([] ++ l) ++ []) = l.filterMap f := congrArg _ (List.append_nil _)
theorem bind_plain {fd : FuncData} {vs : List Value} (hp : plainParams fd.params = true) (hd : fd.defaults = .none) (hl : vs.length = fd.params.args.length) :
    bindArgs fd ⟨vs,[]⟩ = pure ((fd.params.args.map (·.arg)).zip vs) := by
  cases fd with | mk name qual params =>
  cases params with | mk po ar va ko kd kw df =>
  cases hd
  unfold plainParams at hp
  simp only [Bool.and_eq_true,List.isEmpty_iff,Option.isNone_iff_eq_none,decide_eq_true_eq] at hp
  obtain ⟨⟨⟨⟨⟨⟨rfl,rfl⟩,rfl⟩,rfl⟩,rfl⟩,rfl⟩,hn⟩ := hp
  have hl' : vs.length = (ar.map (·.arg)).length := hl.trans (List.length_map _).symm
  have hm : ((ar.map (·.arg)).filter fun n => (((ar.map (·.arg)).zip vs).lookup n).isNone) = [] := by
    rw [List.filter_eq_nil_iff]
    intro x hx
    rw [zip_lookup hl' hx]; simp
  refine (if_neg (no_pos hl')).trans ?_
  refine (if_neg (no_miss fun x hx => zip_lookup hl' hx)).trans ?_
  simp only [Option.getD_none,List.drop_nil,List.toList_toArray,List.zip_nil_right,List.forIn_nil,pure_bind]
  exact congrArg (fun l => (pure l : Sem (List (Str × Value)))) ((fm_app _ _).trans (zip_filterMap hn hl'))
theorem bind_pos {name : Str} {params : Arguments} {body : List Stmt} {scope : Scope} {pm cd doc : Value} {vs : List Value} (hp : plainParams params = true) (hl : vs.length = params.args.length) :
    bindArgs (Calls.docDef name params body scope pm cd doc) ⟨vs,[]⟩ = pure ((params.args.map (·.arg)).zip vs) := bind_plain hp rfl hl
section
variable {prog : Program} {w : World} {A : Around}
theorem call_cells_toks {R : Result -> Shared -> Prop} {s : Shared} {name : Str} {params : Arguments} {body : List Stmt} {scope : Scope}
    {pm cd doc : Value} {a : Addr} {o : Obj} {args : List Value} {binds : List (Str × Value)} (ht : 0 < s.toks)
    (hroom : A.depth < recursionLimit) (ho : s.heap.get? a = some o) (hdata : o.data = .func (Calls.docDef name params body scope pm cd doc)) (hlim : s.heap.NoLimit) (hcd : s.heap.CodeRec cd name)
    (hbind : bindArgs (Calls.docDef name params body scope pm cd doc) ⟨args,[]⟩ = pure binds)
    (hkind : ∀ x ∈ binds,scope.names.lookup x.1 = some .local ∨ (scope.names.lookup x.1 = some .cell /\ ((cellsFrom (s.heap.objs.size + 1) scope.names []).lookup x.1).isSome = true))
    (h : ∀ h₁ tk,0 < tk -> Fr s.heap s.heap.objs.size h₁ (bindL (envOfC name scope s.heap.objs.size a cd).kindOf binds fun _ => none) ->
      Cl s.heap.objs.size (cellsFrom (s.heap.objs.size + 1) scope.names []) h₁ (bindC (envOfC name scope s.heap.objs.size a cd).kindOf binds fun _ => none) ->
      wpAny (model prog w) (A.deeper (envOfC name scope s.heap.objs.size a cd)) (execs body (envOfC name scope s.heap.objs.size a cd))
        (fun f s' => R (.ok (.ret (match f with | .ret v => v | _ => .none))) s') NoE { s with heap := h₁,toks := tk })
    (hco : scope.isCoroutine = false) (hgen : scope.isGenerator = false) (hk : scope.kind = .function) :
    codeAny (model prog w) A (.call (.ref a) ⟨args,[]⟩) R s := by
  refine codeAny_call_function (fd:=Calls.docDef name params body scope pm cd doc) hroom ho hdata hco hgen rfl hcd ?_
  rw [hbind]
  refine wpAny_pure ?_
  show wpAny _ _ (newFunctionEnv scope mainGlobals [] binds (name ++ ".<locals>.") (some a) cd none builtinsNs) _ _ s
  refine wpAny_with_toks (n:=1) ht (wpAny_newFunctionEnv_cells hk hkind fun env he s' x ht' => ?_)
  subst he
  obtain ⟨h₁,tk,rfl,_⟩ := x.done
  exact ⟨hlim.keeps x.toInCall.keep,codeAny_func (wpAny_mono (h h₁ tk ht' ⟨x.toInCall.ns,x.toInCall.keep,x.toInCall.fresh⟩ ⟨x.cell,x.apart,x.above⟩) (fun _ _ q => q) fun _ _ q => q.elim)⟩
end
theorem bindL_no {k : Str -> Option NameKind} {x : Str} : ∀ {binds : List (Str × Value)} {m : Str -> Option Value},(∀ p ∈ binds,p.1 ≠ x) -> bindL k binds m x = m x
  | [],m,_ => rfl
  | (y,v) :: r,m,h => by
    rw [bindL,bindL_no fun p hp => h p (List.mem_cons_of_mem _ hp)]
    have : x ≠ y := fun q => h _ List.mem_cons_self q.symm
    split
    · simp [this]
    · rfl
theorem bindC_no {k : Str -> Option NameKind} {x : Str} : ∀ {binds : List (Str × Value)} {m : Str -> Option Value},(∀ p ∈ binds,p.1 ≠ x) -> bindC k binds m x = m x
  | [],m,_ => rfl
  | (y,v) :: r,m,h => by
    rw [bindC,bindC_no fun p hp => h p (List.mem_cons_of_mem _ hp)]
    have : x ≠ y := fun q => h _ List.mem_cons_self q.symm
    split
    · rfl
    · simp [this]
theorem bindL_zip {k : Str -> Option NameKind} {x : Str} (hk : k x = some .local) : ∀ {names : List Str} {vs : List Value} {m : Str -> Option Value} {i : Nat} {v : Value},names.Nodup -> names[i]? = some x -> vs[i]? = some v -> bindL k (names.zip vs) m x = some v
  | [],_,_,_,_,_,h,_ => by simp at h
  | _ :: _,[],_,_,_,_,_,h => by simp at h
  | y :: r,u :: vs,m,i,v,hn,h1,h2 => by
    rw [List.nodup_cons] at hn
    rw [List.zip_cons_cons,bindL]
    cases i with
    | zero =>
      simp at h1 h2
      subst h1 h2
      rw [if_pos hk,bindL_no fun p hp (q : p.1 = y) => hn.1 (by rw [<- q]; exact (List.of_mem_zip hp).1)]
      simp
    | succ i => exact bindL_zip hk hn.2 (by simpa using h1) (by simpa using h2)
theorem bindC_zip {k : Str -> Option NameKind} {x : Str} (hk : k x ≠ some .local) : ∀ {names : List Str} {vs : List Value} {m : Str -> Option Value} {i : Nat} {v : Value},names.Nodup -> names[i]? = some x -> vs[i]? = some v -> bindC k (names.zip vs) m x = some v
  | [],_,_,_,_,_,h,_ => by simp at h
  | _ :: _,[],_,_,_,_,_,h => by simp at h
  | y :: r,u :: vs,m,i,v,hn,h1,h2 => by
    rw [List.nodup_cons] at hn
    rw [List.zip_cons_cons,bindC]
    cases i with
    | zero =>
      simp at h1 h2
      subst h1 h2
      rw [if_neg hk,bindC_no fun p hp (q : p.1 = y) => hn.1 (by rw [<- q]; exact (List.of_mem_zip hp).1)]
      simp
    | succ i => exact bindC_zip hk hn.2 (by simpa using h1) (by simpa using h2)
noncomputable def startL (args : List V) (k : Nat) : Loc := args.map (fun d => some (.v d)) ++ List.replicate k none
noncomputable abbrev FnOk (τ : Tb) (np : Nat) (params : Arguments) (scope : Scope) : Prop :=
  (plainParams params = true /\ params.args.map (·.arg) = τ.nm.take np /\ params.args.length = np) /\ (τ.nm.Nodup /\ (".0" : Str) ∉ τ.nm) /\ (scope.kind = .function /\ scope.isCoroutine = false /\ scope.isGenerator = false) /\
  (∀ p ∈ scope.names,p.2 ≠ .free) /\ ∀ x ∈ params.args.map (·.arg),scope.names.lookup x = some .local ∨ scope.names.lookup x = some .cell
noncomputable def Fits (c : Cx) (τ : Tb) (K : Kd) (bx : Ss) (body : List Stmt) : Prop := ∀ ε n (G : Gd c τ ε n),(toSs G K bx body).map (·.1) = some bx
theorem Fits.sound {c : Cx} {τ : Tb} {ε : Ev} {n : Nat} {K : Kd} {bx : Ss} {body : List Stmt} (fit : Fits c τ K bx body) (G : Gd c τ ε n) (A : Around) (env : Env) : SSs (fx c τ ε n K A env) body bx := mapE (fit ε n G) fun x _ e2 => e2 ▸ x.2 A env
structure FnAt (c : Cx) (x : Str) (a : Addr) (params : Arguments) (body : List Stmt) (scope : Scope) : Prop where
  fn : ∃ o pm cd doc,c.mg x = some (.ref a) /\ c.b0.get? a = some o /\ o.data = .func (Calls.docDef x params body scope pm cd doc) /\ c.b0.CodeRec cd x
section
variable {c : Cx} {τ : Tb} {ε : Ev} {n : Nat}
theorem start_get {args : List V} {k i : Nat} {d : D} (h : (startL args k)[i]? = some (some d)) : ∃ v,args[i]? = some v /\ d = .v v := by
  unfold startL at h
  by_cases hi : i < args.length
  · rw [List.getElem?_append_left (by simpa using hi),List.getElem?_map] at h
    obtain ⟨v,h1,h2⟩ := Option.map_eq_some_iff.mp h
    cases h2
    exact ⟨v,h1,rfl⟩
  · rw [List.getElem?_append_right (by simpa using Nat.le_of_not_lt hi),List.getElem?_replicate] at h
    split at h <;> cases h
theorem start_ok {env : Env} {names : List Str} {nm : List Str} {args : List V} {vs : List Value} {k : Nat} {Φ : Fz} {s : Shared} {m : Str -> Option Value} (hkd : env.scope.kind = .function) (hgl : env.globals = mainGlobals) (hbl : env.builtins = builtinsNs) (hnm : names = nm.take args.length) (r : Reps Φ args vs)
    (hns : s.heap.Ns env.locals m) (hm : ∀ (i : Nat) y u,names[i]? = some y -> env.kindOf y = some .local -> vs[i]? = some u -> m y = some u)
    (hc : ∀ y cl,env.cells.lookup y = some cl -> ∃ v,s.heap.IsCell cl v /\ ∀ (i : Nat) u,names[i]? = some y -> env.kindOf y = some .cell ∨ env.kindOf y = some .free -> vs[i]? = some u -> v = some u)
    (has : ∀ x,env.kindOf x = some .cell ∨ env.kindOf x = some .free -> ∃ cl,env.cells.lookup x = some cl) (ap : ∀ x y cl,env.cells.lookup x = some cl -> env.cells.lookup y = some cl -> x = y) (Lc : ∀ x cl,env.cells.lookup x = some cl -> cl ≠ env.locals)
    (off : ∀ b,Mut env b -> Φ b = none /\ b ∉ c.T) : FrOk c nm env (startL args k) (fun _ => none) Φ s := by
  have pos : ∀ (i : Nat) (y : Str) (d' : D),nm[i]? = some y -> (startL args k)[i]? = some (some d') -> ∃ v u,d' = .v v /\ vs[i]? = some u /\ Rep Φ v u /\ names[i]? = some y := fun i y d' e1 e2 => by
    obtain ⟨v,q1,q2⟩ := start_get e2
    obtain ⟨u,q3,q4⟩ := r.get q1
    refine ⟨v,u,q2,q3,q4,?_⟩
    rw [hnm,List.getElem?_take,if_pos (List.getElem?_eq_some_iff.mp q1).1]; exact e1
  exact {
    kind := hkd
    glb := hgl
    blt := hbl
    ns := ⟨m,hns,fun i y d' e1 e2 e3 => by
      obtain ⟨v,u,rfl,q3,q4,q5⟩ := pos i y d' e1 e3
      exact ⟨u,hm i y u q5 e2 q3,q4,trivial⟩⟩
    cell := fun y cl e => let ⟨v,k1,k2⟩ := hc y cl e; ⟨v,k1,fun hky i d' e1 e3 => by
      obtain ⟨v,u,rfl,q3,q4,q5⟩ := pos i y d' e1 e3
      exact ⟨u,k2 i u q5 hky q3,q4,trivial⟩⟩
    has := has
    apart := ap
    Lc := Lc
    off := fun b hb => ⟨(off b hb).1,rfl,(off b hb).2⟩
    own := fun b i e => nomatch e
    uni := fun _ _ _ e => nomatch e }
theorem body_enter {x : Str} {a : Addr} {params : Arguments} {scope : Scope} {np : Nat} (k : Nat) (ok : FnOk τ np params scope) {args : List V} (hlen : args.length = np) {A : Around} {Φ : Fz} {s : Shared} {vs : List Value} (R : Room A (n + 1)) (hk : OkS c Φ s) (r : Reps Φ args vs) {cd : Value} {h₁ : Heap} {tk : Tok} (t1 : 0 < tk)
    (F : Fr s.heap s.heap.objs.size h₁ (bindL (envOfC x scope s.heap.objs.size a cd).kindOf ((params.args.map (·.arg)).zip vs) fun _ => none))
    (X : Cl s.heap.objs.size (cellsFrom (s.heap.objs.size + 1) scope.names []) h₁ (bindC (envOfC x scope s.heap.objs.size a cd).kindOf ((params.args.map (·.arg)).zip vs) fun _ => none)) {env : Env} (henv : envOfC x scope s.heap.objs.size a cd = env) :
    Sp c ⟨Φ,s⟩ ⟨Φ,{ s with heap := h₁,toks := tk }⟩ /\ Ok (fx c τ ε n (fun y => scope.names.lookup y) (A.deeper env) env) (startL args k) (fun _ => none) ⟨Φ,{ s with heap := h₁,toks := tk }⟩ /\ ∀ b,Mut env b -> s.heap.get? b = none := by
  obtain ⟨⟨c1,c2,c3⟩,⟨c4,c5⟩,⟨c6,c7,c8⟩,c10,c11⟩ := ok
  have hnd : (params.args.map (·.arg)).Nodup := c2 ▸ c4.sublist (List.take_sublist _ _)
  rw [henv] at F X
  have w1 : Sp c ⟨Φ,s⟩ ⟨Φ,{ s with heap := h₁,toks := tk }⟩ := Wd.keep hk fun b o e => F.keep b o e
  have hL : env.locals = s.heap.objs.size := henv ▸ rfl
  have hC : env.cells = cellsFrom (s.heap.objs.size + 1) scope.names [] := henv ▸ rfl
  have hK : ∀ y,env.kindOf y = scope.names.lookup y := fun y => henv ▸ rfl
  have hMut : ∀ b,Mut env b -> s.heap.get? b = none := fun b hb => hb.elim (fun q => q ▸ hL ▸ get_size _) fun ⟨y,e⟩ => Heap.get?_none_of_le (Nat.le_of_lt (X.above y b (mem_of_lookup (hC ▸ e))))
  refine ⟨w1,⟨hK,R.deeper env,start_ok (by rw [<- henv]; exact c6) (henv ▸ rfl) (henv ▸ rfl) (c2.trans (hlen ▸ rfl)) r (by rw [hL]; exact F.ns) (fun i y u q5 e2 q3 => bindL_zip e2 hnd q5 q3)
    (fun y cl e => ⟨_,X.cell y cl (hC ▸ e),fun i u q5 hky q3 => bindC_zip (fun z => hky.elim (fun q => by rw [z] at q; cases q) fun q => by rw [z] at q; cases q) hnd q5 q3⟩)
    (fun y hy => hC ▸ (hK y ▸ hy).elim (fun q => cells_has (.inl (lookup_mem q))) fun q => absurd rfl (c10 _ (lookup_mem q)))
    (fun y z cl e1 e2 => name_of_addr X.apart (mem_of_lookup (hC ▸ e1)) (mem_of_lookup (hC ▸ e2))) (fun y cl e => hL ▸ Nat.ne_of_gt (X.above y cl (mem_of_lookup (hC ▸ e))))
    fun b hb => ⟨hk.fresh_F (hMut b hb),hk.fresh_T (hMut b hb)⟩,Wd.ok w1,t1⟩,hMut⟩
theorem FlPost.val {F : Fx} {ρ : Loc} {O : Ow} {σ : St} {d : V} {f : Flow} (h : FlPost F ρ O σ (.ret d) f) : Rep σ.Φ d (match (generalizing:=false) f with | .ret v => v | _ => .none) := by
  cases f with
  | ret v => exact h
  | next => exact h.elim
  | brk => exact h.elim
  | cont => exact h.elim
theorem body_sound (G : Gd c τ ε n) {x : Str} {a : Addr} {params : Arguments} {body : List Stmt} {scope : Scope} {np k : Nat} {bx : Ss} (ok : FnOk τ np params scope) (fit : Fits c τ (fun y => scope.names.lookup y) bx body) {args : List V} {d : V} {ρ' : Loc}
    (hlen : args.length = np) (ev : evSs ε bx (startL args k) = some (.ret d,ρ')) {A : Around} {Φ : Fz} {s : Shared} {vs : List Value} (R : Room A (n + 1)) (hk : OkS c Φ s) (r : Reps Φ args vs) {cd : Value} {h₁ : Heap} {tk : Tok} (t1 : 0 < tk)
    (F : Fr s.heap s.heap.objs.size h₁ (bindL (envOfC x scope s.heap.objs.size a cd).kindOf ((params.args.map (·.arg)).zip vs) fun _ => none))
    (X : Cl s.heap.objs.size (cellsFrom (s.heap.objs.size + 1) scope.names []) h₁ (bindC (envOfC x scope s.heap.objs.size a cd).kindOf ((params.args.map (·.arg)).zip vs) fun _ => none)) :
    wpAny (model c.prog c.w) (A.deeper (envOfC x scope s.heap.objs.size a cd)) (execs body (envOfC x scope s.heap.objs.size a cd)) (fun f s' => PostV c Φ s d (match f with | .ret v => v | _ => .none) s') NoE { s with heap := h₁,toks := tk } :=
  let ⟨w1,a1,hMut⟩ := body_enter (ε:=ε) k ok hlen R hk r t1 F X rfl
  wpAny_mono (fit.sound G _ _ _ _ _ _ a1 ev) (fun f s' ⟨Φ',O',x1,x2,x3⟩ => ⟨Φ',Wd.trans w1 x1.w fun b hb => .inr (hb.elim (fun q => q.elim) fun hb => hb.elim (hMut b) fun ⟨i,q⟩ => noneE q),x2.val⟩) fun _ _ q => q
theorem call_sound (G : Gd c τ ε n) {x : Str} {a : Addr} {params : Arguments} {body : List Stmt} {scope : Scope} {np k : Nat} {bx : Ss} (fa : FnAt c x a params body scope) (ok : FnOk τ np params scope) (fit : Fits c τ (fun y => scope.names.lookup y) bx body) {args : List V} {d : V} {ρ' : Loc}
    (hlen : args.length = np) (ev : evSs ε bx (startL args k) = some (.ret d,ρ')) {A : Around} {Φ : Fz} {s : Shared} {vs : List Value} (R : Room A (n + 1)) (hk : OkS c Φ s) (ht : 0 < s.toks) (r : Reps Φ args vs) :
    wpAny (model c.prog c.w) A (call (.ref a) vs) (PostV c Φ s d) NoE s := by
  obtain ⟨o,pm,cd,doc,h1,h2,h3,h4⟩ := fa.fn
  have hvl : vs.length = params.args.length := r.length.trans (hlen.trans ok.1.2.2.symm)
  refine wpAny_call (call_cells_toks ht (Nat.lt_of_le_of_lt (by lia) R.2.1) (hk.keep _ _ h2) h3 (c.nolimit.keeps hk.keep) (h4.keeps hk.keep) (bind_pos ok.1.1 hvl) (fun y hy => ?_) (fun h₁ tk t1 F X => body_sound G ok fit hlen ev R hk r t1 F X) ok.2.2.1.2.1 ok.2.2.1.2.2 ok.2.2.1.1)
  refine (ok.2.2.2.2 _ (List.of_mem_zip hy).1).imp id fun q => ⟨q,?_⟩
  obtain ⟨cl,e⟩ := cells_has (n:=s.heap.objs.size + 1) (acc:=[]) (.inl (lookup_mem q))
  rw [e]; rfl
end
inductive FnX where
  | code (nm : List Str) (np k : Nat) (bx : Ss)
  | hand (m : Nat) (g : List V -> Option V)
noncomputable def FnX.out (q : Option (Fl × Loc)) : Option V := match q with
    | some (.ret d,_) => some d
    | _ => none
noncomputable def FnX.run (F : Nat -> List V -> Option V) (G : Nat -> Option V) (tb : List (Int × Str)) (n : Nat) (args : List V) : FnX -> Option V
  | .code nm np k bx => if args.length = np then FnX.out (evSs ⟨F,G,tb⟩ bx (startL args k)) else none
  | .hand m g => if m ≤ n then g args else none
noncomputable def run (fs : List (Str × FnX)) (G : Nat -> Option V) (tb : List (Int × Str)) : Nat -> Nat -> List V -> Option V
  | 0,_,_ => none
  | n + 1,i,args => (fs[i]?).bind fun f => f.2.run (run fs G tb n) G tb n args
structure GdB (c : Cx) (fs : List (Str × FnX)) (gn : List Str) (tn : Str) (G : Nat -> Option V) (tb : List (Int × Str)) : Prop where
  gv : ∀ (i : Nat) x v,gn[i]? = some x -> G i = some v -> ∃ val,c.mg x = some val /\ ∀ Φ,Rep Φ v val
  bi : ∀ b,b ≠ .range -> b ≠ .reversed -> c.mg (biName b) = none /\ c.mb (biName b) = some (.builtin (biId b))
  bt : (c.mg (biName .range) = none /\ c.mb (biName .range) = some (.type "range")) /\ (c.mg (biName .reversed) = none /\ c.mb (biName .reversed) = some (.type "reversed"))
  tab : ∃ d D,c.mg tn = some (.ref d) /\ IntTab c.prog c.w c.b0 d D /\ (∀ h : Heap,(∀ b o,c.b0.get? b = some o -> h.get? b = some o) -> IntTab c.prog c.w h d D) /\
    (∀ h : Heap,(∀ b o,c.b0.get? b = some o -> h.get? b = some o) -> ∃ ob,h.get? d = some ob /\ ob.dict = none /\ ob.cls = .type "dict") /\ ∀ i z,(Spec.lookup (PyData.int i) D).getD (.str z) = .str ((getTb tb i).getD z)
  fn : ∀ (i : Nat) x f,fs[i]? = some (x,f) -> ∃ a params body scope,FnAt c x a params body scope /\ match f with
    | .code nm np k bx => FnOk ⟨nm,fs.map (·.1),gn,tn⟩ np params scope /\ Fits c ⟨nm,fs.map (·.1),gn,tn⟩ (fun y => scope.names.lookup y) bx body
    | .hand m g => ∀ n,m ≤ n -> (∀ nm,Nm ⟨nm,fs.map (·.1),gn,tn⟩ -> Gd c ⟨nm,fs.map (·.1),gn,tn⟩ ⟨run fs G tb n,G,tb⟩ n) -> ∀ args d,g args = some d -> ∀ A Φ s vs,Room A (n + 1) -> OkS c Φ s -> 0 < s.toks -> Reps Φ args vs -> wpAny (model c.prog c.w) A (call (.ref a) vs) (PostV c Φ s d) NoE s
section
variable {c : Cx} {fs : List (Str × FnX)} {gn : List Str} {tn : Str} {G : Nat -> Option V} {tb : List (Int × Str)}
theorem FnAt.same {x : Str} {a b : Addr} {params : Arguments} {body : List Stmt} {scope : Scope} (h : FnAt c x a params body scope) (e : c.mg x = some (.ref b)) : a = b := by
  obtain ⟨o,pm,cd,doc,h1,_⟩ := h.fn
  rw [h1] at e; cases e; rfl
theorem run_sound (B : GdB c fs gn tn G tb) : ∀ (n : Nat) (nm : List Str),Nm ⟨nm,fs.map (·.1),gn,tn⟩ -> Gd c ⟨nm,fs.map (·.1),gn,tn⟩ ⟨run fs G tb n,G,tb⟩ n := by
  have fn : ∀ (i : Nat) x,(fs.map (·.1))[i]? = some x -> ∃ a o fd,c.mg x = some (.ref a) /\ c.b0.get? a = some o /\ o.data = .func fd := fun i x e => by
    rw [List.getElem?_map] at e
    refine mapE e fun ⟨y,f⟩ h1 h2 => ?_
    cases h2
    obtain ⟨a,params,body,scope,⟨o,pm,cd,doc,q1,q2,q3,q4⟩,_⟩ := B.fn i y f h1
    exact ⟨a,o,_,q1,q2,q3⟩
  intro n
  induction n with
  | zero => exact fun nm N => ⟨N,B.gv,B.bi,B.bt,fn,fun i x a args d e1 e2 e3 => noneE e3,B.tab⟩
  | succ n ih =>
    intro nm N
    refine ⟨N,B.gv,B.bi,B.bt,fn,fun i x a args d e1 e2 e3 A Φ s vs R k t r => ?_,B.tab⟩
    rw [List.getElem?_map] at e1
    refine mapE e1 fun ⟨y,f⟩ h1 h2 => ?_
    cases h2
    obtain ⟨a',params,body,scope,fa,hf⟩ := B.fn i y f h1
    cases fa.same e2
    have e4 : f.run (run fs G tb n) G tb n args = some d := by
      have e3' : ((fs[i]?).bind fun f => f.2.run (run fs G tb n) G tb n args) = some d := e3
      rw [h1] at e3'
      exact e3'
    cases f with
    | hand m g => exact iteE (show (if m ≤ n then g args else none) = some d from e4) fun hm e => hf n hm ih args d e A Φ s vs R k t r
    | code nm' np kk bx =>
      refine iteE (show (if args.length = np then FnX.out (evSs ⟨run fs G tb n,G,tb⟩ bx (startL args kk)) else none) = some d from e4) fun hl e => ?_
      generalize hq : evSs ⟨run fs G tb n,G,tb⟩ bx (startL args kk) = q at e
      cases q with
      | none => exact noneE e
      | some q =>
        obtain ⟨fl,ρ'⟩ := q
        cases fl with
        | next => exact noneE e
        | brk => exact noneE e
        | ret u =>
          cases Option.some.inj e
          exact call_sound (ih nm' ⟨hf.1.2.1.1,hf.1.2.1.2⟩) fa hf.1 hf.2 hl hq R k t r
end
noncomputable def digitsOf (a : Nat) (n k : Nat) : List V := (List.range k).map fun i => .int ((a / 2 ^ (n * i) % 2 ^ n : Nat) : Int)
noncomputable def hand_int2digits : List V -> Option V
  | [.int a,.int n] => if 0 ≤ a /\ 0 < n /\ n ≤ 10000 /\ bits a ≤ 1000000 /\ (bits a + n.toNat - 1) / n.toNat ≤ 1000 then some (.list (digitsOf a.toNat n.toNat ((bits a + n.toNat - 1) / n.toNat))) else none
  | _ => none
noncomputable def joinOf (n : Nat) : List Int -> Int
  | [] => 0
  | d :: r => d + joinOf n r * 2 ^ n
noncomputable def hand_digits2int : List V -> Option V
  | [.list l,.int n] => (allInts l).bind fun ds => if 0 < n /\ n ≤ 10000 /\ ds.length ≤ 1000 /\ ds.all (fun d => decide (bits d ≤ 100000)) then some (.int (joinOf n.toNat ds)) else none
  | _ => none
section
variable {prog : Program} {w : World} {A : Around}
theorem call_cells_one {R : Result -> Shared -> Prop} {s : Shared} {name : Str} {params : Arguments} {body : List Stmt} {scope : Scope}
    {pm cd doc : Value} {a : Addr} {o : Obj} {args : List Value} {y : Str} {v : Value} (hy : scope.names.lookup y = some .local)
    (hroom : A.depth < recursionLimit) (ho : s.heap.get? a = some o) (hdata : o.data = .func (Calls.docDef name params body scope pm cd doc)) (hlim : s.heap.NoLimit) (hcd : s.heap.CodeRec cd name)
    (hbind : bindArgs (Calls.docDef name params body scope pm cd doc) ⟨args,[]⟩ = pure [(y,v)])
    (h : ∀ h₁ tk,0 < tk -> Fr s.heap s.heap.objs.size h₁ (bindL (envOfC name scope s.heap.objs.size a cd).kindOf [(y,v)] fun _ => none) ->
      Cl s.heap.objs.size (cellsFrom (s.heap.objs.size + 1) scope.names []) h₁ (bindC (envOfC name scope s.heap.objs.size a cd).kindOf [(y,v)] fun _ => none) ->
      wpAny (model prog w) (A.deeper (envOfC name scope s.heap.objs.size a cd)) (execs body (envOfC name scope s.heap.objs.size a cd))
        (fun f s' => R (.ok (.ret (match f with | .ret v => v | _ => .none))) s') NoE { s with heap := h₁,toks := tk })
    (hco : scope.isCoroutine = false) (hgen : scope.isGenerator = false) (hk : scope.kind = .function) :
    codeAny (model prog w) A (.call (.ref a) ⟨args,[]⟩) R s := by
  refine codeAny_call_function (fd:=Calls.docDef name params body scope pm cd doc) hroom ho hdata hco hgen rfl hcd ?_
  rw [hbind]
  refine wpAny_pure ?_
  show wpAny _ _ (newFunctionEnv scope mainGlobals [] [(y,v)] (name ++ ".<locals>.") (some a) cd none builtinsNs) _ _ s
  simp only [newFunctionEnv,Option.isSome_none,Bool.false_eq_true,if_false]
  refine wpAny_bind (wpAny_alloc ?_)
  refine wpAny_bind (wpAny_layCells _ (fun name kind cells => by cases hkc : kind == NameKind.cell <;> simp) _ _ _ _ ?_)
  have ok := cellsFrom_ok scope.names (s.heap.push { cls := .type "frame",data := .dict #[] }) (s.heap.objs.size + 1) [] ⟨fun _ _ hm => (nomatch hm),List.Pairwise.nil⟩ (by rw [Heap.size_push]; exact Nat.le_refl _)
  rw [Heap.size_push] at ok
  rw [show ({ s with heap := s.heap.push { cls := .type "frame",data := .dict #[] } } : Shared).heap.objs.size = s.heap.objs.size + 1 from Heap.size_push ..]
  refine wpAny_bind ?_
  rw [List.forIn_cons]
  refine wpAny_bind (wpAny_bind ?_)
  have hns : (pushCells (s.heap.push { cls := .type "frame",data := .dict #[] }) scope.names).Ns s.heap.objs.size (fun _ => none) := (Heap.Ns.new s.heap (.type "frame")).keeps (pushCells_keeps _ _)
  refine wpAny_storeName_local (m:=fun _ => none) (env:=newEnv scope s.heap.objs.size mainGlobals (cellsFrom (s.heap.objs.size + 1) scope.names []) (name ++ ".<locals>.") (some a) cd none builtinsNs) hy hns (fun h' hn' hs' => ?_) (by
    show (scope.kind == .class || (scope.kind == .module && s.heap.objs.size != mainGlobals)) = false
    rw [hk]; rfl)
  refine wpAny_pure (wpAny_pure (wpAny_pure ?_))
  have keep : ∀ b o,s.heap.get? b = some o -> h'.get? b = some o := fun b o e => hs'.extBut b o (Nat.ne_of_lt (Heap.lt_size e)) (pushCells_keeps _ _ b o (Heap.get?_push_of_some _ e))
  refine ⟨hlim.keeps keep,codeAny_func (wpAny_mono (h h' _ (Nat.succ_pos _) ⟨?_,keep,Nat.le_refl _⟩ ⟨?_,ok.apart,fun n c hm => (ok.empty n c hm).2⟩) (fun _ _ q => q) fun _ _ q => q.elim)⟩
  · have e : bindL (envOfC name scope s.heap.objs.size a cd).kindOf [(y,v)] (fun _ => none) = fun z => if z = y then some v else none := by
      have hy' : (envOfC name scope s.heap.objs.size a cd).kindOf y = some .local := hy
      rw [bindL,bindL,if_pos hy']
    rw [e]; exact hn'
  · intro n cl e
    have e2 : bindC (envOfC name scope s.heap.objs.size a cd).kindOf [(y,v)] (fun _ => none) = fun _ => none := by
      have hy' : (envOfC name scope s.heap.objs.size a cd).kindOf y = some .local := hy
      rw [bindC,bindC,if_pos hy']
    rw [e2]
    have hx := ok.empty n cl (mem_of_lookup e)
    exact hx.1.sameBut hs' (Nat.ne_of_gt hx.2)
end
section
variable {c : Cx} {τ : Tb} {ε : Ev} {n : Nat}
end
end
section
structure Tab where
  c : Addr
  P : Addr
  line : Nat
  col : Nat
  qual : Str
noncomputable def TabOk (t : Tab) (Φ : Fz) (ps : Array Value) : Prop :=
  ps = #[] ∨ ∃ c' oc vs tq,ps = #[rawInt t.line,rawInt t.col,.ref c'] /\ Φ c' = some oc /\ oc.data = .fields vs /\ vs[1]? = some (.str t.qual tq)
noncomputable def TabJ (ts : List Tab) (Φ : Fz) (h : Heap) : Prop := ∀ t ∈ ts,∃ ps,h.get? t.P = some (tabObj ps) /\ TabOk t Φ ps
noncomputable def tabsOf (ts : List Tab) : List (Addr × Addr) := ts.map fun t => (t.c,t.P)
theorem mem_tabs {ts : List Tab} {P : Addr} (h : P ∈ (tabsOf ts).map (·.2)) : ∃ t ∈ ts,t.P = P := by
  obtain ⟨q,hq,rfl⟩ := List.mem_map.mp h
  obtain ⟨t,ht,rfl⟩ := List.mem_map.mp hq
  exact ⟨t,ht,rfl⟩
theorem tabs_mem {ts : List Tab} {t : Tab} (h : t ∈ ts) : t.P ∈ (tabsOf ts).map (·.2) := List.mem_map.mpr ⟨(t.c,t.P),List.mem_map.mpr ⟨t,h,rfl⟩,rfl⟩
noncomputable def mkCx (prog : Program) (w : World) (s₁ : Shared) (ts : List Tab) (mg mb : Str -> Option Value) (hT : TabsAt (tabsOf ts) s₁.heap) (g : s₁.heap.Ns mainGlobals mg) (b : s₁.heap.Ns builtinsNs mb) (nl : s₁.heap.NoLimit) : Cx where
  prog := prog
  w := w
  b0 := ghostOf s₁.heap (tabsOf ts)
  T := (tabsOf ts).map (·.2)
  J := TabJ ts
  os := s₁.os
  mg := mg
  mb := mb
  J_ext := fun Φ Φ' h h' j le k t ht => by
    obtain ⟨ps,e,ok⟩ := j t ht
    refine ⟨ps,k _ (tabs_mem ht) _ e,?_⟩
    rcases ok with rfl | ⟨c',oc,vs,tq,h1,h2,h3⟩
    · exact .inl rfl
    · exact .inr ⟨c',oc,vs,tq,h1,le _ _ h2,h3⟩
  J_at := fun Φ h j a ha => by
    obtain ⟨t,ht,rfl⟩ := mem_tabs ha
    obtain ⟨ps,e,_⟩ := j t ht
    exact ⟨_,e⟩
  nolimit := let ⟨mc,a,r⟩ := nl; ⟨mc,ghost_ns hT a,r⟩
  g := ghost_ns hT g
  b := ghost_ns hT b
section
variable {prog : Program} {w : World} {s₁ : Shared} {ts : List Tab} {mg mb : Str -> Option Value} {hT : TabsAt (tabsOf ts) s₁.heap} {g : s₁.heap.Ns mainGlobals mg} {b : s₁.heap.Ns builtinsNs mb} {nl : s₁.heap.NoLimit}
theorem ok_start (hg : s₁.gens = #[]) : OkS (mkCx prog w s₁ ts mg mb hT g b nl) (fun a => (ghostOf s₁.heap (tabsOf ts)).get? a) s₁ where
  base := fun a o e => e
  inn := fun a o e => of_hideAll _ e
  tabs := fun t ht => ⟨#[],(hT (t.c,t.P) (List.mem_map.mpr ⟨t,ht,rfl⟩)).2,.inl rfl⟩
  tn := fun a ha => hideAll_none _ ha
  gens := hg
  os := rfl
theorem grown_of {Φ : Fz} {h : Heap} (j : TabJ ts Φ h) : GrownAll (tabsOf ts) h := by
  unfold tabsOf
  induction ts with
  | nil => exact trivial
  | cons t r ih =>
    obtain ⟨ps,e,_⟩ := j t List.mem_cons_self
    exact ⟨⟨ps,e⟩,ih fun u hu => j u (List.mem_cons_of_mem _ hu)⟩
theorem good_end {cw : ClaimW} {cl : Str -> Option Addr} {mean : ExcName -> Option Value} {args : List WData} {Φ : Fz} {u : Value} {s' : Shared} (hr : ∀ a x,cw.raises a x = false) (hp : ∀ as : List WData,cw.post args (ofPy (.bool true)) args = true)
    (q : PostV (mkCx prog w s₁ ts mg mb hT g b nl) Φ s₁ (.bool true) u s') : GoodW cw cl mean args { s₁ with heap := ghostOf s₁.heap (tabsOf ts) } (.ok (.ret u)) s' /\ GrownAll (tabsOf ts) s'.heap := by
  obtain ⟨Φ',w',r⟩ := q
  have := Rep.bool_inv r
  subst this
  refine ⟨⟨.inl ⟨.bool true,ofPy (.bool true),[],rfl,fun x => hr _ x,?_,hp args,fun _ => ⟨List.nodup_nil,fun _ h => nomatch h⟩⟩,fun b o e => w'.ok.inn _ _ (w'.ok.base b o e),w'.ok.os,w'.ok.gens⟩,grown_of w'.ok.tabs⟩
  exact (show ReadsW _ _ _ _ (.bool true) [] from .bool true)
end
end
section
section
variable {prog : Program} {w : World} {h : Heap} {tabs : List (Addr × Addr)}
theorem intTab_move {h h' : Heap} {d : Addr} {D : List (PyData × PyData)} (T : IntTab prog w h d D) (k : ∀ o,h.get? d = some o -> o.cls = .type "dict" -> h'.get? d = some o) : IntTab prog w h' d D := by
  obtain ⟨lo,kvs,⟨o,es,ep,ho,⟨hc,hd,hsl⟩,r⟩,f⟩ := T
  exact ⟨lo,kvs,⟨o,es,ep,k o ho hc,⟨hc,hd,hsl⟩,r⟩,f⟩
theorem intTab_ob {h : Heap} {d : Addr} {D : List (PyData × PyData)} (T : IntTab prog w h d D) : ∃ ob,h.get? d = some ob /\ ob.dict = none /\ ob.cls = .type "dict" := by
  obtain ⟨lo,kvs,⟨o,es,ep,ho,⟨hc,hd,hsl⟩,r⟩,f⟩ := T
  exact ⟨o,ho,hd,hc⟩
theorem intTab_ghost {d : Addr} {D : List (PyData × PyData)} (hT : TabsAt tabs h) (T : IntTab prog w h d D) : IntTab prog w (ghostOf h tabs) d D :=
  intTab_move T fun o e hc => ghost_get hT e fun q => by rw [q] at hc; cases hc
theorem wellInts {P : Params} {vs : List Value} {ns : List Int} {Φ : Fz} (x : WellAll P h vs (ofPys (ns.map PyData.int))) : Reps Φ (ns.map V.int) vs := by
  induction ns generalizing vs with
  | nil => cases x; exact .nil
  | cons n r ih =>
    cases x with
    | cons a b => cases a; exact .cons (.int _ _) (ih b)
theorem script_rep {P : Params} {a : Addr} {ns : List Int} (hT : TabsAt tabs h) (x : Well P h (.ref a) (ofPy (PyData.list (ns.map PyData.int)))) : Rep (fun b => (ghostOf h tabs).get? b) (.list (ns.map V.int)) (.ref a) := by
  cases x with
  | list e r => exact .list (ghost_get hT e (fun q => by cases q)) (by simpa using wellInts r)
end
theorem fnAt_ghost {prog : Program} {w : World} {s₁ : Shared} {ts : List Tab} {mg mb : Str -> Option Value} {hT : TabsAt (tabsOf ts) s₁.heap} {g : s₁.heap.Ns mainGlobals mg} {b : s₁.heap.Ns builtinsNs mb} {nl : s₁.heap.NoLimit}
    {x : Str} {a : Addr} {o : Obj} {params : Arguments} {body : List Stmt} {scope : Scope} {pm cd doc : Value} (h1 : mg x = some (.ref a)) (h2 : s₁.heap.get? a = some o) (h3 : o.data = .func (Calls.docDef x params body scope pm cd doc)) (h4 : s₁.heap.CodeRec cd x) :
    FnAt (mkCx prog w s₁ ts mg mb hT g b nl) x a params body scope := by
  refine ⟨o,pm,cd,doc,h1,ghost_get hT h2 (fun q => by rw [q] at h3; cases h3),h3,?_⟩
  obtain ⟨c',o',vs,t,e1,e2,e3,e4⟩ := h4
  exact ⟨c',o',vs,t,e1,ghost_get hT e2 (fun q => by rw [q] at e3; cases e3; simp at e4),e3,e4⟩
end
theorem boot_bi (b : Bi) (h1 : b ≠ .range) (h2 : b ≠ .reversed) : bootBuiltins (biName b) = some (.builtin (biId b)) := by
  cases b <;> first | (exact absurd rfl h1) | (exact absurd rfl h2) | kernel_rfl
theorem boot_range : bootBuiltins (biName .range) = some (.type "range") := by kernel_rfl
theorem boot_reversed : bootBuiltins (biName .reversed) = some (.type "reversed") := by kernel_rfl
noncomputable def freeOk (p : Program) (loose : List Str) (xs : List Str) : Bool := xs.all fun x => !startupNames.contains x && !loose.contains x && !((recsOf p).map (·.name)).contains x && !((litsOf p).map (·.1)).contains x && !((clssOf p loose).map (·.name)).contains x && x != ("__name__" : Str)
noncomputable def biAll : List Str := [biName .abs,biName .len,biName .sum,biName .max,biName .min,biName .hex,biName .divmod,biName .sorted,biName .range,biName .reversed]
theorem biAll_mem (b : Bi) : biName b ∈ biAll := by cases b <;> simp [biAll]
theorem free_of {p : Program} {loose : List Str} {mean : ExcName -> Option Value} {mg mb : Str -> Option Value} {h : Heap} (T : Top p loose mean mg mb h) (ok : freeOk p loose biAll = true) (b : Bi) : mg (biName b) = none /\ mb (biName b) = bootBuiltins (biName b) := by
  have := List.all_eq_true.mp ok _ (biAll_mem b)
  simp only [Bool.and_eq_true,Bool.not_eq_true',bne_iff_ne,ne_eq] at this
  obtain ⟨⟨⟨⟨⟨q1,q2⟩,q3⟩,q4⟩,q5⟩,q6⟩ := this
  exact ⟨T.free _ (by simpa using q1) (by simpa using q2) (by simpa using q3) (by simpa using q4) (by simpa using q5),T.builtins _ q6⟩
theorem const_int {p : Program} {loose : List Str} {mean : ExcName -> Option Value} {mg mb : Str -> Option Value} {h : Heap} (T : Top p loose mean mg mb h) {x : Str} {i : Int} (e : valOf p x = some (.int i)) : ∃ v,mg x = some v /\ ∀ Φ,Rep Φ (.int i) v := by
  obtain ⟨v,h1,h2⟩ := T.const x _ e
  refine ⟨v,h1,fun Φ => ?_⟩
  cases h2 h with | int _ t => exact .int _ _
theorem const_str {p : Program} {loose : List Str} {mean : ExcName -> Option Value} {mg mb : Str -> Option Value} {h : Heap} (T : Top p loose mean mg mb h) {x : Str} {i : Str} (e : valOf p x = some (.str i)) : ∃ v,mg x = some v /\ ∀ Φ,Rep Φ (.str i) v := by
  obtain ⟨v,h1,h2⟩ := T.const x _ e
  refine ⟨v,h1,fun Φ => ?_⟩
  cases h2 h with | str _ t => exact .str _ _
section
noncomputable def gnames0 : List Str := ["_DIV_LIMIT","ELLIPSIS_MARKER"]
noncomputable def glob0 : Nat -> Option V
  | 0 => some (.int 4000)
  | 1 => some (.str "...")
  | _ => none
noncomputable def tname0 : Str := "COMPILER_FLAG_NAMES"
noncomputable def flagTab0 : List (Int × Str) := [(1,"OPTIMIZED"),(2,"NEWLOCALS"),(4,"VARARGS"),(8,"VARKEYWORDS"),(16,"NESTED"),(32,"GENERATOR"),(64,"NOFREE"),(128,"COROUTINE"),(256,"ITERABLE_COROUTINE"),(512,"ASYNC_GENERATOR")]
noncomputable abbrev Dt (fs : List (Str × FnX)) (nm : List Str) : Tb := ⟨nm,fs.map (·.1),gnames0,tname0⟩
noncomputable def defAt (p : Program) (x : Str) : Option DefRec := (recsOf p).find? fun d => d.name == x
noncomputable def okOne (p : Program) (fs : List (Str × FnX)) (q : Str × FnX) : Bool := match defAt p q.1,q.2 with
  | some d,.code nm np k bx => decide (FnOk (Dt fs nm) np d.params d.scope)
  | some d,.hand _ _ => true
  | none,_ => false
noncomputable def chkAll (p : Program) (fs : List (Str × FnX)) : Bool := fs.all (okOne p fs)
noncomputable abbrev FitAt (c : Cx) (p : Program) (fs : List (Str × FnX)) (x : Str) (nm : List Str) (bx : Ss) : Prop :=
  ∀ ε n (G : Gd c (Dt fs nm) ε n),(defAt p x).map (fun d => (toSs G (fun y => d.scope.names.lookup y) bx d.body).map (·.1)) = some (some bx)
noncomputable def fitOne (c : Cx) (p : Program) (fs : List (Str × FnX)) : Str × FnX -> Prop
  | (x,.code nm _ _ bx) => FitAt c p fs x nm bx
  | (_,.hand _ _) => True
theorem FitAt.of {c : Cx} {p : Program} {fs : List (Str × FnX)} {x : Str} {nm : List Str} {bx : Ss} {d : DefRec} (h : FitAt c p fs x nm bx) (e : defAt p x = some d) : Fits c (Dt fs nm) (fun y => d.scope.names.lookup y) bx d.body := fun ε n G => by
  have z := h ε n G
  rw [e] at z
  exact Option.some.inj z
theorem defAt_name {p : Program} {x : Str} {d : DefRec} (e : defAt p x = some d) : d ∈ recsOf p /\ d.name = x := ⟨List.mem_of_find?_eq_some e,eq_of_beq (List.find?_some (p:=fun e : DefRec => e.name == x) e)⟩
noncomputable abbrev W (c : Cx) (A : Around) {α : Type} (t : Sem α) (Q : α -> Shared -> Prop) (s : Shared) : Prop := wpAny (model c.prog c.w) A t Q NoE s
noncomputable def HandOk (c : Cx) (p : Program) (fs : List (Str × FnX)) (x : Str) (m : Nat) (g : List V -> Option V) : Prop :=
  ∀ d,defAt p x = some d -> ∀ a,FnAt c x a d.params d.body d.scope -> ∀ n,m ≤ n -> (∀ nm,Nm (Dt fs nm) -> Gd c (Dt fs nm) ⟨run fs glob0 flagTab0 n,glob0,flagTab0⟩ n) ->
    ∀ args v,g args = some v -> ∀ A Φ s vs,Room A (n + 1) -> OkS c Φ s -> 0 < s.toks -> Reps Φ args vs -> W c A (call (.ref a) vs) (PostV c Φ s v) s
noncomputable def flagD : List (PyData × PyData) := flagTab0.map fun q => (.int q.1,.str q.2)
theorem tab_lookup (i : Int) (z : Str) : ∀ l : List (Int × Str),(Spec.lookup (PyData.int i) (l.map fun q => (PyData.int q.1,PyData.str q.2))).getD (.str z) = .str ((getTb l i).getD z)
  | [] => rfl
  | (k,x) :: r => by
    have ih := tab_lookup i z r
    rw [List.map_cons]
    have e : Spec.same (PyData.int k) (PyData.int i) = (k == i) := by
      first | rfl | (simp [Spec.same,PyData.eqv])
    rw [Spec.lookup,getTb,e]
    by_cases h : i = k
    · subst h
      simp
    · have h2 : (k == i) = false := by simpa using fun q : k = i => h q.symm
      rw [h2,if_neg h]
      exact ih
theorem flag_lookup (i : Int) (z : Str) : (Spec.lookup (PyData.int i) flagD).getD (.str z) = .str ((getTb flagTab0 i).getD z) := tab_lookup i z flagTab0
section
variable {prog : Program} {w : World} {s₁ : Shared} {ts : List Tab} {mg mb : Str -> Option Value} {hT : TabsAt (tabsOf ts) s₁.heap} {g : s₁.heap.Ns mainGlobals mg} {b : s₁.heap.Ns builtinsNs mb} {nl : s₁.heap.NoLimit}
theorem gdB_of {loose : List Str} {mean : ExcName -> Option Value} {fs : List (Str × FnX)} {p : Program} (T : Top p loose mean mg mb s₁.heap) (B : Tables p w mg s₁.heap) (hpw : ∀ h d D,IntTab p w h d D -> IntTab prog w h d D) (hfree : freeOk p loose biAll = true)
    (h0 : valOf p "_DIV_LIMIT" = some (.int 4000)) (h1 : valOf p "ELLIPSIS_MARKER" = some (.str "...")) (ht : tabIntOf p tname0 = some flagD) (hf : chkAll p fs = true) (hfit : ∀ q ∈ fs,fitOne (mkCx prog w s₁ ts mg mb hT g b nl) p fs q)
    (hand : ∀ x m q,(x,FnX.hand m q) ∈ fs -> HandOk (mkCx prog w s₁ ts mg mb hT g b nl) p fs x m q) :
    GdB (mkCx prog w s₁ ts mg mb hT g b nl) fs gnames0 tname0 glob0 flagTab0 where
  gv := fun i x v e1 e2 => by
    match i with
    | 0 => cases e1; cases e2; exact const_int T h0
    | 1 => cases e1; cases e2; exact const_str T h1
    | n + 2 => simp [gnames0] at e1
  bi := fun q q1 q2 => ⟨(free_of T hfree q).1,(free_of T hfree q).2.trans (boot_bi q q1 q2)⟩
  bt := ⟨⟨(free_of T hfree _).1,(free_of T hfree _).2.trans boot_range⟩,⟨(free_of T hfree _).1,(free_of T hfree _).2.trans boot_reversed⟩⟩
  tab := by
    obtain ⟨a,q1,q2⟩ := B.tabI _ _ ht
    have q3 := intTab_ghost hT (hpw _ _ _ q2)
    refine ⟨a,flagD,q1,q3,fun h k => intTab_move q3 fun o e _ => k a o e,fun h k => ?_,flag_lookup⟩
    obtain ⟨ob,e,r⟩ := intTab_ob q3
    exact ⟨ob,k a ob e,r⟩
  fn := fun i x f e => by
    have hm := List.mem_of_getElem? e
    have hc := List.all_eq_true.mp hf _ hm
    have hft := hfit _ hm
    unfold okOne at hc
    cases hd : defAt p x with
    | none => rw [hd] at hc; cases hc
    | some d =>
      rw [hd] at hc
      obtain ⟨hmem,hn⟩ := defAt_name hd
      obtain ⟨a,o,pm,cd,doc,q1,q2,q3,q4⟩ := T.fn d hmem
      rw [hn] at q1 q3 q4
      have fa : FnAt (mkCx prog w s₁ ts mg mb hT g b nl) x a d.params d.body d.scope := fnAt_ghost q1 q2 q3 q4
      refine ⟨a,d.params,d.body,d.scope,fa,?_⟩
      cases f with
      | code nm np k bx => exact ⟨of_decide_eq_true hc,FitAt.of hft hd⟩
      | hand m q => exact hand x m q hm d hd a fa
end
noncomputable def okLaw (p : Program) (fs : List (Str × FnX)) (nm : List Str) : Bool := match defAt p "law" with
  | some d => decide (FnOk (Dt fs nm) 1 d.params d.scope /\ ∀ y ∈ d.params.args.map (fun (z : Arg) => z.arg),d.scope.names.lookup y = some .local)
  | none => false
theorem room_caller : Room callerA 121 := ⟨rfl,by decide,by decide⟩
end
section
set_option genInjectivity false
set_option genSizeOfSpec false
theorem lookup_app {x : Str} : ∀ (l m : List (Str × Value)),(l ++ m).lookup x = (l.lookup x).or (m.lookup x)
  | [],m => rfl
  | (y,v) :: l,m => by
    rw [List.cons_append,List.lookup_cons,List.lookup_cons]
    cases x == y with
    | true => rfl
    | false => exact lookup_app l m
theorem lookup_no {x : Str} : ∀ {l : List (Str × Value)},(∀ p ∈ l,p.1 ≠ x) -> l.lookup x = none
  | [],_ => rfl
  | (y,v) :: l,h => by
    rw [List.lookup_cons,show (x == y) = false from beq_eq_false_iff_ne.mpr fun q : x = y => h (y,v) List.mem_cons_self q.symm]
    exact lookup_no fun p hp => h p (List.mem_cons_of_mem _ hp)
theorem zip_back {x : Str} {v : Value} : ∀ {names : List Str} {vs : List Value} {i : Nat},names.Nodup -> names[i]? = some x -> vs[i]? = some v -> (names.zip vs).reverse.lookup x = some v
  | [],_,_,_,h,_ => nomatch h
  | _ :: _,[],_,_,_,h => nomatch h
  | y :: r,u :: vs,i,hn,h1,h2 => by
    rw [List.nodup_cons] at hn
    rw [List.zip_cons_cons,List.reverse_cons,lookup_app]
    cases i with
    | zero =>
      cases Option.some.inj h1
      cases Option.some.inj h2
      rw [lookup_no fun p hp q => hn.1 (by rw [<- q]; exact (List.of_mem_zip (List.mem_reverse.mp hp)).1),List.lookup_cons,beq_self_eq_true]
      rfl
    | succ i => rw [zip_back hn.2 h1 h2]; rfl
noncomputable def CloFn (Φ : Fz) (f : Addr) (name qual : Str) (params : Arguments) (body : List Stmt) (scope : Scope) (clos : List (Str × Addr)) : Prop :=
  ∃ doc pm c' ctv oc vs tq,Φ f = some (fnMade name qual params body scope clos doc pm c' ctv) /\ Φ c' = some oc /\ oc.data = .fields vs /\ vs[1]? = some (.str qual tq)
theorem CloFn.mono {Φ Φ' : Fz} {f : Addr} {name qual : Str} {params : Arguments} {body : List Stmt} {scope : Scope} {clos : List (Str × Addr)} (h : CloFn Φ f name qual params body scope clos) (k : Φ.le Φ') : CloFn Φ' f name qual params body scope clos :=
  let ⟨doc,pm,c',ctv,oc,vs,tq,h1,h2,r⟩ := h; ⟨doc,pm,c',ctv,oc,vs,tq,k _ _ h1,k _ _ h2,r⟩
noncomputable abbrev InnerOk (nm : List Str) (np : Nat) (params : Arguments) (scope : Scope) : Prop :=
  (plainParams params = true /\ params.args.map (·.arg) = nm.take np /\ params.args.length = np) /\ nm.Nodup /\ (scope.kind = .function /\ scope.isCoroutine = false /\ scope.isGenerator = false) /\
  (∀ p ∈ scope.names,p.2 ≠ .cell) /\ ∀ x ∈ params.args.map (·.arg),scope.names.lookup x = some .local
structure Cells (c : Cx) (σ : St) (scope : Scope) (clos : List (Str × Addr)) : Prop where
  has : ∀ p ∈ scope.names,p.2 = .free -> ∃ cl,clos.lookup p.1 = some cl
  fr : ∀ x cl,clos.lookup x = some cl -> (x,NameKind.free) ∈ scope.names
  cell : ∀ x cl,clos.lookup x = some cl -> ∃ v,σ.s.heap.IsCell cl v
  fz : ∀ x cl,clos.lookup x = some cl -> σ.Φ cl = none /\ cl ∉ c.T
  ap : ∀ x y cl,clos.lookup x = some cl -> clos.lookup y = some cl -> x = y
theorem FrOk.learn {c : Cx} {nm : List Str} {env : Env} {ρ : Loc} {O : Ow} {Φ : Fz} {s : Shared} {i : Nat} {x : Str} {cl : Addr} {d : V} {w : Value} (f : FrOk c nm env ρ O Φ s) (N : nm.Nodup) (hi : nm[i]? = some x) (hk : env.kindOf x ≠ some .local) (hc : env.cells.lookup x = some cl) (h : s.heap.IsCell cl (some w)) (r : Rep Φ d w) :
    FrOk c nm env (ρ.set i (some (.v d))) O Φ s :=
  have inj : ∀ j,nm[j]? = some x -> j = i := fun j e => (List.getElem?_inj (List.getElem?_eq_some_iff.mp e).1 N).mp (e.trans hi.symm)
  { f with
    ns := let ⟨m,hn,hm⟩ := f.ns; ⟨m,hn,fun j y d' e1 e2 e3 => (set_at e3).elim (fun q => by cases q.1; cases hi.symm.trans e1; exact absurd e2 hk) fun q => hm j y d' e1 e2 q.2⟩
    cell := fun y cl' e => (Classical.em (y = x)).elim (fun q => by
        subst q
        cases hc.symm.trans e
        exact ⟨some w,h,fun _ j d' e1 e2 => by cases inj j e1; exact (set_at e2).elim (fun q => by cases q.2; exact ⟨w,rfl,r,trivial⟩) fun q => absurd rfl q.1⟩)
      fun q => let ⟨v,h1,h2⟩ := f.cell y cl' e; ⟨v,h1,fun ky j d' e1 e2 => (set_at e2).elim (fun z => by cases z.1; cases hi.symm.trans e1; exact absurd rfl q) fun z => h2 ky j d' e1 z.2⟩ }
section
variable {c : Cx} {X : Addr -> Prop} {σ σ' : St} {scope : Scope} {clos : List (Str × Addr)}
theorem isCell_step (w : Spx c X σ σ') {b : Addr} {v : Option Value} (h : σ.s.heap.IsCell b v) (hT : b ∉ c.T) (hX : ¬ X b) : σ'.s.heap.IsCell b v := let ⟨o,e,r⟩ := h; ⟨o,Wd.pres w b o e hT hX,r⟩
theorem Cells.step (C : Cells c σ scope clos) (w : Spx c X σ σ') (hX : ∀ x cl,clos.lookup x = some cl -> ¬ X cl) : Cells c σ' scope clos where
  has := C.has
  fr := C.fr
  cell x cl e := let ⟨v,h⟩ := C.cell x cl e; ⟨v,isCell_step w h (C.fz x cl e).2 (hX x cl e)⟩
  fz x cl e := let ⟨v,o,eo,_⟩ := C.cell x cl e; ⟨Wd.stays w eo (C.fz x cl e).1 (hX x cl e),(C.fz x cl e).2⟩
  ap := C.ap
noncomputable def Cap (σ : St) (clos : List (Str × Addr)) (x : Str) (P : Fz -> Value -> Prop) : Prop := ∃ cl w,clos.lookup x = some cl /\ σ.s.heap.IsCell cl (some w) /\ P σ.Φ w
theorem Cap.step {x : Str} {P : Fz -> Value -> Prop} (h : Cap σ clos x P) (C : Cells c σ scope clos) (w : Spx c X σ σ') (hX : ∀ x cl,clos.lookup x = some cl -> ¬ X cl) (hP : ∀ v,P σ.Φ v -> P σ'.Φ v) : Cap σ' clos x P :=
  let ⟨cl,v,e,h,p⟩ := h; ⟨cl,v,e,isCell_step w h (C.fz x cl e).2 (hX x cl e),hP v p⟩
end
section
variable {c : Cx} {τ : Tb} {ε : Ev} {n : Nat}
theorem inner_call {A : Around} {σ : St} {f : Addr} {name qual : Str} {params : Arguments} {body : List Stmt} {scope : Scope} {clos : List (Str × Addr)} {args : List V} {vs : List Value} {Q : Value -> Shared -> Prop} {np k : Nat}
    (ok : InnerOk τ.nm np params scope) (hlen : args.length = np) (H : CloFn σ.Φ f name qual params body scope clos) (C : Cells c σ scope clos) (hk : OkS c σ.Φ σ.s) (ht : 0 < σ.s.toks) (R : Room A (n + 1)) (r : Reps σ.Φ args vs)
    (h : ∀ env s1,Sp c σ ⟨σ.Φ,s1⟩ -> env.cells = clos -> σ.s.heap.get? env.locals = none -> (∀ x cl,clos.lookup x = some cl -> cl ≠ env.locals) -> Ok (fx c τ ε n (fun y => scope.names.lookup y) (A.deeper env) env) (startL args k) (fun _ => none) ⟨σ.Φ,s1⟩ ->
      W c (A.deeper env) (execs body env) (fun fl s' => Q (match fl with | .ret v => v | _ => .none) s') s1) :
    W c A (call (.ref f) vs) Q σ.s := by
  obtain ⟨doc,pm,c',ctv,oc,fs,tq,h1,h2,h3,h4⟩ := H
  obtain ⟨⟨p1,p2,p3⟩,nd,⟨k1,k2,k3⟩,hc,hl⟩ := ok
  have hnd : (params.args.map (·.arg)).Nodup := p2 ▸ nd.sublist (List.take_sublist _ _)
  refine wpAny_call (codeAny_call_function (fd:=fnX name qual params body scope clos .none .none doc pm none (.ref c') ctv) (Nat.lt_of_le_of_lt (by omega) R.2.1) (hk.inn _ _ h1) rfl k2 k3 rfl ⟨c',oc,fs,tq,rfl,hk.inn _ _ h2,h3,h4⟩ ?_)
  rw [show bindArgs _ ⟨vs,[]⟩ = _ from bind_plain (fd:=fnX name qual params body scope clos .none .none doc pm none (.ref c') ctv) p1 rfl (r.length.trans (hlen.trans p3.symm))]
  refine wpAny_pure (wpAny_newFunctionEnv hc (fun y hy => hl _ (List.of_mem_zip hy).1) (fun h' hns hsb => ?_) k1)
  have kp : ∀ b o,σ.s.heap.get? b = some o -> h'.get? b = some o := fun b o e => hsb.extBut b o (Nat.ne_of_lt (Heap.lt_size e)) (Heap.get?_push_of_some _ e)
  refine ⟨(c.nolimit.keeps hk.keep).keeps kp,codeAny_func (wpAny_mono (?_ : W c _ _ _ _) (fun _ _ q => q) fun _ _ q => q.elim)⟩
  generalize he : newEnv scope σ.s.heap.objs.size mainGlobals clos (qual ++ ".<locals>.") (some f) (.ref c') none builtinsNs = env
  have hL : env.locals = σ.s.heap.objs.size := he ▸ rfl
  have hC : env.cells = clos := he ▸ rfl
  have hK : ∀ y,env.kindOf y = scope.names.lookup y := fun y => he ▸ rfl
  have w1 : Sp c σ ⟨σ.Φ,{ σ.s with heap := h',toks := σ.s.toks + ((params.args.map (·.arg)).zip vs).length }⟩ := Wd.keep hk kp
  have hlt : ∀ x cl,clos.lookup x = some cl -> cl < σ.s.heap.objs.size := fun x cl e => let ⟨v,q⟩ := C.cell x cl e; q.lt
  have loc : ∀ (i : Nat) y,(params.args.map (·.arg))[i]? = some y -> scope.names.lookup y = some .local := fun i y e => hl y (List.mem_of_getElem? e)
  refine h env _ w1 hC (hL ▸ get_size _) (fun x cl e => hL ▸ Nat.ne_of_lt (hlt x cl e)) ⟨hK,R.deeper env,start_ok (he ▸ k1) (he ▸ rfl) (he ▸ rfl) (p2.trans (hlen ▸ rfl)) r (hL ▸ hns) (fun i y u q1 _ q3 => zip_back hnd q1 q3)
    (fun y cl e => let ⟨v,q⟩ := C.cell y cl (hC ▸ e); ⟨v,q.keeps kp,fun i u q1 q2 q3 => by rw [hK,loc i y q1] at q2; exact q2.elim (fun z => by cases z) fun z => by cases z⟩)
    (fun x hx => ?_) (fun x y cl e1 e2 => C.ap x y cl (hC ▸ e1) (hC ▸ e2)) (fun x cl e => hL ▸ Nat.ne_of_lt (hlt x cl (hC ▸ e))) (fun b hb => ?_),Wd.ok w1,Nat.lt_of_lt_of_le ht (Nat.le_add_right _ _)⟩
  · rw [hC]
    rw [hK] at hx
    exact hx.elim (fun q => absurd rfl (hc _ (lookup_mem q))) fun q => C.has _ (lookup_mem q) rfl
  · exact hb.elim (fun q => q ▸ hL ▸ ⟨hk.fresh_F (get_size _),hk.fresh_T (get_size _)⟩) fun ⟨y,e⟩ => C.fz y b (hC ▸ e)
end
end
section
set_option genInjectivity false
set_option genSizeOfSpec false
theorem execs_app {env : Env} : ∀ {a b : List Stmt},execs (a ++ b) env = execs a env >>= fun f => match f with | .next => execs b env | f => pure f
  | [],b => rfl
  | s :: a,b => by
    have ih := execs_app (env:=env) (a:=a) (b:=b)
    rw [List.cons_append,PySem.execs_cons,PySem.execs_cons,bind_assoc,ih]
    congr 1
    funext f
    cases f <;> rfl
section
variable {F : Fx} {ρ ρ' : Loc} {O : Ow} {σ : St} {a b : List Stmt} {xs : Ss} {Q : Flow -> Shared -> Prop}
theorem SSs.then (h : SSs F a xs) (ok : Ok F ρ O σ) (ev : evSs F.ε xs ρ = some (.next,ρ')) (k : ∀ O' σ',Step F NoX O σ O' σ' -> Ok F ρ' O' σ' -> F.W (execs b F.env) Q σ'.s) : F.W (execs (a ++ b) F.env) Q σ.s := by
  rw [execs_app]
  exact wpAny_bind (wpAny_mono (h ρ O σ _ ok ev) (fun f s' h' => SPost.cases ok h' (fun O' σ' ρ1 e1 e2 e3 x y => by cases e1; cases e2; cases e3; exact k O' σ' x y) (fun O' σ' ρ1 e1 e2 e3 x y => nomatch e2) fun d v e1 e2 => nomatch e1) fun _ _ q => q)
theorem SSs.out {d : V} (h : SSs F a xs) (ok : Ok F ρ O σ) (ev : evSs F.ε xs ρ = some (.ret d,ρ')) (k : ∀ O' σ' v,Step F NoX O σ O' σ' -> Rep σ'.Φ d v -> 0 < σ'.s.toks -> Q (.ret v) σ'.s) : F.W (execs (a ++ b) F.env) Q σ.s := by
  rw [execs_app]
  refine wpAny_bind (wpAny_mono (h ρ O σ _ ok ev) (fun f s' h' => SPost.cases ok h' (fun O' σ' ρ1 e1 e2 e3 x y => nomatch e2) (fun O' σ' ρ1 e1 e2 e3 x y => nomatch e2) fun d v e1 e2 => ?_) fun _ _ q => q)
  cases e1
  cases e2
  obtain ⟨Φ',O',x,r,t⟩ := h'
  exact wpAny_pure (k O' ⟨Φ',s'⟩ v x r t)
theorem call_cell {x : Str} {p pos : Pos} {args : List Expr} {xs : Xs} {cl f : Addr} {name qual : Str} {params : Arguments} {body : List Stmt} {scope : Scope} {clos : List (Str × Addr)} {ds : List D} {zs : List V} {Q : Value -> Shared -> Prop}
    (a : Ok F ρ O σ) (h0 : AllXs F args xs) (e1 : evXs F.ε xs ρ = some ds) (e2 : fzs ds = some zs)
    (hl : F.env.cells.lookup x = some cl) (hkx : F.K x = some .cell ∨ F.K x = some .free) (hcell : σ.s.heap.IsCell cl (some (.ref f))) (H : CloFn σ.Φ f name qual params body scope clos) (hn1 : (x == ("__classdict__" : Str)) = false) (hn2 : (x == ("__debug__" : Str)) = false)
    (h : ∀ σ' us,Sp F.c σ σ' -> Reps σ'.Φ zs us -> Ok F ρ O σ' -> F.W (call (.ref f) us) Q σ'.s) : F.W (eval (.Call (.Name x p) args [] pos) F.env) Q σ.s :=
  have ld {R : Value -> Shared -> Prop} (z : R (.ref f) σ.s) : F.W (loadName F.env x) R σ.s := hkx.elim (fun k => wpAny_loadName_cell a.fr.kind ((a.K x).trans k) hl hcell z) fun k => wpAny_loadName_free a.fr.kind ((a.K x).trans k) hl hcell z hn1
  let ⟨doc,pm,c',ctv,oc,fs,tq,h1,h2,h3,h4⟩ := H
  PyProof.Rows.Call_Name (h0.ns.back _ _) (wpAny_Name (ld (Calls.callWith_function (o:=fnMade name qual params body scope clos doc pm c' ctv) (fd:=fnX name qual params body scope clos .none .none doc pm none (.ref c') ctv) (evalArgs_any ((h0.e ρ O σ ds a e1).then a fun us σ1 w1 r1 a1 =>
    let ⟨Φ2,w2,_,r2⟩ := freezes w1 r1 e2
    ⟨⟨(Wd.ok w2).inn _ _ (Wd.le w2 _ _ h1),rfl⟩,h ⟨Φ2,σ1.s⟩ us w2 r2 (a.next (σ' := ⟨Φ2,σ1.s⟩) w2 a1.t)⟩)))) hn2)
end
end
section
set_option genInjectivity false
set_option genSizeOfSpec false
noncomputable def BmAt (mg : Str -> Option Value) (h : Heap) : Prop := ∃ bm ob,mg "__builtins__" = some (.ref bm) /\ bm ≠ builtinsNs /\ h.get? bm = some ob /\ ob.cls = .type "module" /\ ob.dict = some builtinsNs /\ ob.data = .plain
structure IsG (c : Cx) (ts : List Tab) (t : Tab) : Prop where
  J : c.J = TabJ ts
  T : c.T = (tabsOf ts).map (·.2)
  mem : t ∈ ts
  uni : ∀ t' ∈ ts,t'.P = t.P -> t' = t
  hd : CodeHd c.b0 t.c t.P
  bm : BmAt c.mg c.b0
section
variable {c : Cx} {ts : List Tab} {t : Tab} {σ : St}
theorem IsG.tab (g : IsG c ts t) (k : OkS c σ.Φ σ.s) : ∃ ps,σ.s.heap.get? t.P = some (tabObj ps) /\ TabOk t σ.Φ ps := (show TabJ ts σ.Φ σ.s.heap from g.J ▸ k.tabs) t g.mem
theorem IsG.memT (g : IsG c ts t) : t.P ∈ c.T := g.T ▸ tabs_mem g.mem
theorem ns_data {h : Heap} {a : Addr} {m : Str -> Option Value} (x : h.Ns a m) : ∃ o es ep,h.get? a = some o /\ o.data = .dict es ep := let ⟨o,es,ep,e,hd,_⟩ := x; ⟨o,es,ep,e,hd⟩
theorem IsG.glb (g : IsG c ts t) (k : OkS c σ.Φ σ.s) : mainGlobals ≠ t.P /\ σ.s.heap.BuiltinsAt c.mg t.P := by
  obtain ⟨ps,hps,_⟩ := g.tab k
  obtain ⟨bm,ob,b1,b2,b3,b4,b5,b6⟩ := g.bm
  have b3 := k.keep _ _ b3
  obtain ⟨o,es,ep,e,hd⟩ := ns_data (c.g.keeps k.keep)
  refine ⟨fun q => ?_,bm,ob,b1,b2,fun q => ?_,fun q => ?_,b3,b4,b5,b6⟩
  · rw [q,hps] at e; cases e; cases hd
  · rw [q,e] at b3; cases b3; rw [hd] at b6; cases b6
  · rw [q,hps] at b3; cases b3; cases b4
theorem IsG.grow (g : IsG c ts t) (k : OkS c σ.Φ σ.s) {c' : Addr} {h' : Heap} {oc fo : Obj} {vs : Array Value} {qual : Str} {tq : Tok} {tk : Tok} {line col : Nat} (hl : line = t.line) (hc : col = t.col) (hq : qual = t.qual) (hx : Heap.ExtBut t.P σ.s.heap h') (hge : σ.s.heap.objs.size ≤ c') (hlt : c' < h'.objs.size)
    (hoc : h'.get? c' = some oc) (hd : oc.data = .fields vs) (hv : vs[1]? = some (.str qual tq)) (htb : h'.get? t.P = some (tabObj #[rawInt line,rawInt col,.ref c'])) (hf : fo.isFreed = false) :
    ∃ Φ',Sp c σ ⟨Φ',{ σ.s with heap := h'.push fo,toks := tk }⟩ /\ Φ' c' = some oc /\ Φ' h'.objs.size = some fo := by
  have hcn : σ.s.heap.get? c' = none := Heap.get?_none_of_le hge
  have hfn : σ.s.heap.get? h'.objs.size = none := Heap.get?_none_of_le (Nat.le_of_lt (Nat.lt_of_le_of_lt hge hlt))
  have hcf : c' ≠ h'.objs.size := Nat.ne_of_lt hlt
  have hle1 : σ.Φ.le (σ.Φ.add c' oc) := Fz.le_add (k.fresh_F hcn)
  have hΦf' : σ.Φ.add c' oc h'.objs.size = none := (if_neg hcf.symm).trans (k.fresh_F hfn)
  have hle2 : (σ.Φ.add c' oc).le ((σ.Φ.add c' oc).add h'.objs.size fo) := Fz.le_add hΦf'
  have hle := hle1.trans hle2
  have hPn : σ.Φ t.P = none := k.tn _ g.memT
  have old : ∀ b o,b ≠ t.P -> σ.s.heap.get? b = some o -> (h'.push fo).get? b = some o := fun b o hb e => Heap.get?_push_of_some _ (hx b o hb e)
  have hcases : ∀ a o,((σ.Φ.add c' oc).add h'.objs.size fo) a = some o -> (a = h'.objs.size /\ o = fo) ∨ (a = c' /\ o = oc) ∨ σ.Φ a = some o := fun a o e => by
    unfold Fz.add at e
    by_cases q : a = h'.objs.size
    · rw [if_pos q] at e; cases e; exact .inl ⟨q,rfl⟩
    · rw [if_neg q] at e
      by_cases q2 : a = c'
      · rw [if_pos q2] at e; cases e; exact .inr (.inl ⟨q2,rfl⟩)
      · rw [if_neg q2] at e; exact .inr (.inr e)
  have tb := Heap.get?_push_of_some fo htb
  refine ⟨(σ.Φ.add c' oc).add h'.objs.size fo,⟨hle,⟨fun a o e => hle _ _ (k.base a o e),fun a o e => ?_,g.J ▸ fun t' ht' => ?_,fun a ha => ?_,k.gens,k.os⟩,fun b o e hb _ => old b o (fun q => hb (q ▸ g.memT)) e,fun a o e => ?_,fun b _ e => ?_⟩,hle2 _ _ Fz.add_self,Fz.add_self⟩
  · rcases hcases a o e with ⟨rfl,rfl⟩ | ⟨rfl,rfl⟩ | q
    · exact Heap.get?_push_size _ hf
    · exact Heap.get?_push_of_some _ hoc
    · exact old a o (fun r => noneE (hPn.symm.trans (r ▸ q))) (k.inn a o q)
  · by_cases q : t'.P = t.P
    · rw [g.uni t' ht' q]
      exact ⟨_,tb,.inr ⟨c',oc,vs,tq,hl ▸ hc ▸ rfl,hle2 _ _ Fz.add_self,hd,hq ▸ hv⟩⟩
    · obtain ⟨ps',e1,e2⟩ := (show TabJ ts σ.Φ σ.s.heap from g.J ▸ k.tabs) t' ht'
      exact ⟨ps',old _ _ q e1,e2.imp id fun ⟨c₁,oc₁,vs₁,tq₁,r1,r2,r3⟩ => ⟨c₁,oc₁,vs₁,tq₁,r1,hle _ _ r2,r3⟩⟩
  · obtain ⟨o,e⟩ := c.J_at _ _ k.tabs a ha
    cases q : ((σ.Φ.add c' oc).add h'.objs.size fo) a with
    | none => exact q
    | some o' =>
      exfalso
      rcases hcases a o' q with ⟨rfl,_⟩ | ⟨rfl,_⟩ | r
      · exact noneE (hfn.symm.trans e)
      · exact noneE (hcn.symm.trans e)
      · exact noneE ((k.tn a ha).symm.trans r)
  · rcases hcases a o e with ⟨rfl,_⟩ | ⟨rfl,_⟩ | q
    · exact .inr (.inr hfn)
    · exact .inr (.inr hcn)
    · exact .inl q
  · obtain ⟨o,e⟩ := Option.isSome_iff_exists.mp e
    exact Option.isSome_iff_exists.mpr ((Classical.em (b = t.P)).elim (fun q => ⟨_,q ▸ tb⟩) fun q => ⟨_,old b o q e⟩)
theorem make_inner (g : IsG c ts t) {A : Around} {env : Env} {name qual : Str} {params : Arguments} {body : List Stmt} {scope : Scope} {clos : List (Str × Addr)} {pos : Pos} {firstLine : Nat} {Q : Value -> Shared -> Prop}
    (hcode : env.code = .ref t.c) (hgl : env.globals = mainGlobals) (hl : pos.line = t.line) (hc : pos.col = t.col) (hq : qual = t.qual) (hcl : closureFor scope env = pure clos) (hk : OkS c σ.Φ σ.s)
    (h : ∀ f σ',Sp c σ σ' -> CloFn σ'.Φ f name qual params body scope clos -> Q (.ref f) σ'.s) :
    W c A (makeFunction name qual params (.stmts body) scope env [] [] [] pos firstLine) Q σ.s := by
  obtain ⟨ps,hps,hok⟩ := g.tab hk
  obtain ⟨hgP,hBA⟩ := g.glb hk
  rcases hok with rfl | ⟨c',oc,vs,tq,rfl,h1,h2,h3⟩
  · refine makeFunction_K (ps:=#[]) hcl hgl (c.g.keeps hk.keep) hcode (g.hd.keeps hk.keep) hps trivial rfl hgP hBA fun c' ctv doc h' tk hx hge hlt ⟨c₂,oc,vs,tq,e2,hoc,hd,hv⟩ htb => ?_
    cases e2
    obtain ⟨Φ',w,q1,q2⟩ := g.grow hk (fo:=fnMade name qual params body scope clos doc ((c.mg "__name__").getD .none) c' ctv) (tk:=tk) hl hc hq hx hge hlt hoc hd hv htb rfl
    exact h _ ⟨Φ',_⟩ w ⟨doc,_,c',ctv,oc,vs,tq,q2,q1,hd,hv⟩
  · have hf : codeAmong pos (#[rawInt t.line,rawInt t.col,Value.ref c'] : Array Value).toList = some (.ref c') := by
      simp [codeAmong,rawInt,hl,hc]
    refine makeFunction_hit hcl hgl (c.g.keeps hk.keep) hcode (g.hd.keeps hk.keep) hps (by simp [TriplesOk,rawInt]) hf hBA fun ctv doc h' tk hkp hsz => ?_
    have w1 : Sp c σ ⟨σ.Φ,{ σ.s with heap := h',toks := tk }⟩ := Wd.keep hk hkp
    have w2 := Wd.made (X:=NoX) (Wd.ok w1) (o:=fnMade name qual params body scope clos doc ((c.mg "__name__").getD .none) c' ctv) (tk:=tk) rfl
    exact h h'.objs.size ⟨_,_⟩ (Wd.then w1 w2) ⟨doc,_,c',ctv,oc,vs,tq,Fz.add_self,w2.le _ _ (Wd.le w1 _ _ h1),h2,hq ▸ h3⟩
end
end
section
set_option genInjectivity false
set_option genSizeOfSpec false
theorem annOf_none {env : Env} : ∀ {l : List Arg},(l.all fun a => a.annotation.isNone) = true -> annotationsOf l env = []
  | [],_ => rfl
  | ⟨x,a,p⟩ :: l,h => by
    rw [List.all_cons,Bool.and_eq_true] at h
    obtain ⟨h1,h2⟩ := h
    cases a with
    | none => exact (annOf_none h2 : annotationsOf l env = [])
    | some a => cases h1
theorem ann_none {params : Arguments} {env : Env} (hp : plainParams params = true) (ha : (params.args.all fun a => a.annotation.isNone) = true) : annTrees params none env = [] /\ params.defaults = [] /\ params.kw_defaults = [] := by
  obtain ⟨po,ar,va,ko,kd,kw,df⟩ := params
  unfold plainParams at hp
  simp only [Bool.and_eq_true,List.isEmpty_iff,Option.isNone_iff_eq_none,decide_eq_true_eq] at hp
  obtain ⟨⟨⟨⟨⟨⟨rfl,rfl⟩,rfl⟩,rfl⟩,rfl⟩,rfl⟩,hn⟩ := hp
  refine ⟨?_,rfl,rfl⟩
  unfold annTrees
  simp only [List.append_nil,Option.toList]
  rw [annOf_none ha]
  rfl
noncomputable abbrev NestOk (t : Tab) (ip : Arguments) (pos : Pos) : Prop := plainParams ip = true /\ (ip.args.all fun a => a.annotation.isNone) = true /\ pos.line = t.line /\ pos.col = t.col
section
variable {F : Fx} {ρ : Loc} {O : Ow} {σ : St} {ts : List Tab} {t : Tab} {isc : Scope}
theorem clo_at {cells : List (Str × Addr)} {names : List (Str × NameKind)} {x : Str} {cl : Addr} (h : (x,NameKind.free) ∈ names) (e : cells.lookup x = some cl) : (cloOf cells names []).lookup x = some cl :=
  let ⟨b,hb⟩ := clo_has (acc:=[]) (.inl ⟨h,cl,e⟩)
  (clo_lookup hb).elim (fun q => hb.trans (q.2.symm.trans e)) fun q => nomatch q
theorem clo_back {cells : List (Str × Addr)} {names : List (Str × NameKind)} {x : Str} {cl : Addr} (h : (cloOf cells names []).lookup x = some cl) : cells.lookup x = some cl := (clo_lookup h).elim (fun q => q.2) fun q => nomatch q
noncomputable abbrev FreeOk (K : Kd) (isc : Scope) : Prop := ∀ p ∈ isc.names,p.2 = .free -> K p.1 = some .cell ∨ K p.1 = some .free
theorem Ok.cells (a : Ok F ρ O σ) (hf : FreeOk F.K isc) : Cells F.c σ isc (cloOf F.env.cells isc.names []) where
  has p hp e := let ⟨cl,h⟩ := a.fr.has p.1 (a.K p.1 ▸ hf p hp e); ⟨cl,clo_at (show (p.1,NameKind.free) ∈ isc.names from e ▸ hp) h⟩
  fr x cl e := (clo_lookup e).elim (fun q => q.1) fun q => nomatch q
  cell x cl e := let ⟨v,h,_⟩ := a.fr.cell x cl (clo_back e); ⟨v,h⟩
  fz x cl e := let z := a.fr.off cl (.inr ⟨x,clo_back e⟩); ⟨z.1,z.2.2⟩
  ap x y cl e1 e2 := a.fr.apart x y cl (clo_back e1) (clo_back e2)
theorem Ok.cap {i : Nat} {x : Str} {d : D} {P : Fz -> Value -> Prop} (a : Ok F ρ O σ) (h1 : F.τ.nm[i]? = some x) (hk : F.K x = some .cell ∨ F.K x = some .free) (e : ρ[i]? = some (some d)) (hm : (x,NameKind.free) ∈ isc.names) (h : ∀ v,Rp F.c O σ σ d v -> P σ.Φ v) : Cap σ (cloOf F.env.cells isc.names []) x P :=
  cell_at a h1 (a.K x ▸ hk) e fun cl v hcl hc r _ => ⟨cl,v,clo_at hm hcl,hc,h v r⟩
theorem store_other {x : Str} {cl : Addr} {v : Value} {Q : Unit -> Shared -> Prop} (a : Ok F ρ O σ) (hx : F.K x = some .cell) (hcl : F.env.cells.lookup x = some cl) (hno : x ∉ F.τ.nm)
    (h : ∀ s',Spx F.c (· = cl) σ ⟨σ.Φ,s'⟩ -> Ok F ρ O ⟨σ.Φ,s'⟩ -> s'.heap.IsCell cl (some v) -> Q () s') : F.W (storeName F.env x v) Q σ.s := by
  have hM : Mut F.env cl := .inr ⟨x,hcl⟩
  have off := a.fr.off _ hM
  have hX : ∀ b,b = cl -> O b = none := fun b hb => hb ▸ off.2.1
  obtain ⟨u,hc,hp⟩ := a.fr.cell x cl hcl
  refine wpAny_mono (withToks a.t (wpAny_storeName_cell (Q:=fun _ s' => ∃ h',s' = { σ.s with heap := h' } /\ h'.IsCell cl (some v) /\ Heap.SameBut cl σ.s.heap h') a.fr.kind ((a.K x).trans hx) hcl hc fun h' hc' hs' => ⟨h',rfl,hc',hs'⟩)) (fun _ s' ⟨⟨h',es,hc',hs'⟩,t⟩ => ?_) fun _ _ q => q
  subst es
  have w : Spx F.c (· = cl) σ ⟨σ.Φ,{ σ.s with heap := h' }⟩ := Wd.write a.k (tk:=σ.s.toks) (fun b o e hb => hs'.extBut b o hb e) fun b hb => hb ▸ ⟨off.1,off.2.2⟩
  refine h _ w ⟨a.K,a.R,{ a.fr with ns := let ⟨m,hn,hm⟩ := a.fr.ns; ⟨m,hn.sameBut hs' (Ne.symm (a.fr.Lc x cl hcl)),fun j y d' e1 e2 e3 => let ⟨u',p1,p2,p3⟩ := hm j y d' e1 e2 e3; ⟨u',p1,p2.wide w hX,p3⟩⟩,cell := fun y cl' e => ?_,own := fun b j e => ?_ },Wd.ok w,t⟩ hc'
  · by_cases hy : y = x
    · subst hy
      cases hcl.symm.trans e
      exact ⟨some v,hc',fun ky j d' e1 e2 => absurd (List.mem_of_getElem? e1) hno⟩
    · obtain ⟨u',hcu,hpu⟩ := a.fr.cell y cl' e
      exact ⟨u',hcu.sameBut hs' (fun q => hy (a.fr.apart y x cl' e (q ▸ hcl))),fun ky j d' e1 e2 => let ⟨u2,p1,p2,p3⟩ := hpu ky j d' e1 e2; ⟨u2,p1,p2.wide w hX,p3⟩⟩
  · obtain ⟨⟨o,eo⟩,q1,q2⟩ := a.fr.own b j e
    exact ⟨⟨o,Wd.pres w b o eo q2 fun q => noneE ((hX b q).symm.trans e)⟩,q1,q2⟩
theorem nest_then {ip : Arguments} {ib : List Stmt} {pos : Pos} {Q : Flow -> Shared -> Prop} {x : Str} (g : IsG F.c ts t) (a : Ok F ρ O σ) (ok : NestOk t ip pos) (hcode : F.env.code = .ref t.c) (hq : F.env.qual ++ x = t.qual) (hK : F.K x = some .cell) (hno : x ∉ F.τ.nm) (hf : FreeOk F.K isc)
    (h : ∀ σ' f,Spx F.c (fun b => F.env.cells.lookup x = some b) σ σ' -> Ok F ρ O σ' -> CloFn σ'.Φ f x t.qual ip ib isc (cloOf F.env.cells isc.names []) -> (∀ cl,F.env.cells.lookup x = some cl -> σ'.s.heap.IsCell cl (some (.ref f))) -> Q .next σ'.s) :
    F.W (exec (.FunctionDef x ip ib [] none [] isc none x pos) F.env) Q σ.s := by
  obtain ⟨o1,o2,o3,o4⟩ := ok
  obtain ⟨ha,hd0,hk0⟩ := ann_none (env:=F.env) o1 o2
  obtain ⟨cl,hcl⟩ := a.fr.has x (.inl ((a.K x).trans hK))
  have hqual : qualnameIn F.env x x = t.qual := by
    unfold qualnameIn
    rw [(a.K x).trans hK]
    exact hq
  rw [<- hqual] at h
  refine nestDef_K hd0 hk0 ha (wpAny_mono (withToks a.t (make_inner (Q:=fun v s' => ∃ f σ',v = .ref f /\ σ'.s = s' /\ Sp F.c σ σ' /\ CloFn σ'.Φ f x _ ip ib isc (cloOf F.env.cells isc.names [])) g hcode a.fr.glb o3 o4 hqual (closure_eq fun p hp e => a.fr.has p.1 (a.K p.1 ▸ hf p hp e)) a.k fun f σ1 w1 H => ⟨f,σ1,rfl,rfl,w1,H⟩)) (fun v s' ⟨⟨f,σ1,e1,e2,w1,H⟩,t1⟩ => ?_) fun _ _ q => q)
  subst e1
  subst e2
  refine store_other (a.next w1 t1) hK hcl hno fun s2 w2 a2 hc => h ⟨σ1.Φ,s2⟩ f ?_ a2 H fun cl' e => ?_
  · exact Wd.trans (Wd.any w1) w2 fun b hb => .inl (hb ▸ hcl)
  · cases hcl.symm.trans e; exact hc
theorem hand_enter {c : Cx} {τ : Tb} {ε : Ev} {n : Nat} {x : Str} {a : Addr} {params : Arguments} {body : List Stmt} {scope : Scope} {np k : Nat} (fa : FnAt c x a params body scope) (ok : FnOk τ np params scope) {args : List V} (hlen : args.length = np) {A : Around} {Φ : Fz} {s : Shared} {vs : List Value} {codev : Value} {Q : Value -> Shared -> Prop} (R : Room A (n + 1)) (hk : OkS c Φ s) (ht : 0 < s.toks) (r : Reps Φ args vs)
    (hcode : ∀ o pm cd doc,c.b0.get? a = some o -> o.data = .func (Calls.docDef x params body scope pm cd doc) -> cd = codev)
    (h : ∀ env s1,env.code = codev -> env.qual = x ++ ".<locals>." -> Sp c ⟨Φ,s⟩ ⟨Φ,s1⟩ -> (∀ b,Mut env b -> s.heap.get? b = none) -> Ok (fx c τ ε n (fun y => scope.names.lookup y) (A.deeper env) env) (startL args k) (fun _ => none) ⟨Φ,s1⟩ ->
      W c (A.deeper env) (execs body env) (fun fl s' => Q (match fl with | .ret v => v | _ => .none) s') s1) : W c A (call (.ref a) vs) Q s := by
  obtain ⟨o,pm,cd,doc,h1,h2,h3,h4⟩ := fa.fn
  have hvl : vs.length = params.args.length := r.length.trans (hlen.trans ok.1.2.2.symm)
  refine wpAny_call (call_cells_toks ht (Nat.lt_of_le_of_lt (by omega) R.2.1) (hk.keep _ _ h2) h3 (c.nolimit.keeps hk.keep) (h4.keeps hk.keep) (bind_pos ok.1.1 hvl) (fun y hy => ?_) (fun h₁ tk t1 F X => ?_) ok.2.2.1.2.1 ok.2.2.1.2.2 ok.2.2.1.1)
  · refine (ok.2.2.2.2 _ (List.of_mem_zip hy).1).imp id fun q => ⟨q,?_⟩
    obtain ⟨cl,e⟩ := cells_has (n:=s.heap.objs.size + 1) (acc:=[]) (.inl (lookup_mem q))
    rw [e]; rfl
  · obtain ⟨w1,a1,hMut⟩ := body_enter (ε:=ε) k ok hlen R hk r t1 F X rfl
    exact h _ _ (hcode o pm cd doc h2 h3) rfl w1 hMut a1
theorem interactive_fn {env : Env} (h : env.scope.kind = .function) : interactive env = false := by
  unfold interactive
  simp [h]
theorem Gd.bare {c : Cx} {fn gn nm : List Str} {tn : Str} {ε : Ev} {n : Nat} (G : Gd c ⟨nm,fn,gn,tn⟩ ε n) (nm' : List Str) (N : Nm ⟨nm',fn,gn,tn⟩) : Gd c ⟨nm',fn,gn,tn⟩ ⟨fun _ _ => none,ε.G,ε.tb⟩ 0 :=
  ⟨N,G.gv,G.bi,G.bt,G.fn,fun i x a args d e1 e2 e3 => noneE e3,G.tab⟩
theorem allInts_map : ∀ {l : List V} {ds : List Int},allInts l = some ds -> l = ds.map V.int
  | [],_,h => Option.some.inj h ▸ rfl
  | .int i :: l,_,h => mapE h fun ms e1 e2 => e2 ▸ congrArg (V.int i :: ·) (allInts_map e1)
end
end
section
set_option genInjectivity false
set_option genSizeOfSpec false
theorem joinOf_append (m : Nat) : ∀ (a b : List Int),joinOf m (a ++ b) = joinOf m a + joinOf m b * 2 ^ (m * a.length)
  | [],b => by simp [joinOf]
  | x :: a,b => by
    rw [List.cons_append,joinOf,joinOf,joinOf_append m a b,List.length_cons,Nat.mul_add,Nat.mul_one,Int.pow_add,Int.add_mul,<- Int.mul_assoc]
    lia
noncomputable abbrev sliceI (l : List Int) (L R : Nat) : List Int := (l.drop L).take (R - L)
theorem slice_split {l : List Int} {L M R : Nat} (h1 : L ≤ M) (h2 : M ≤ R) : sliceI l L R = sliceI l L M ++ sliceI l M R := by
  unfold sliceI
  have e : R - L = (M - L) + (R - M) := by lia
  rw [e,List.take_add,List.drop_drop]
  congr 3
  lia
theorem slice_len {l : List Int} {L R : Nat} (h1 : L ≤ R) (h2 : R ≤ l.length) : (sliceI l L R).length = R - L := by
  unfold sliceI
  rw [List.length_take,List.length_drop]; lia
theorem joinOf_le {m D : Nat} (hm : 0 < m) : ∀ {l : List Int},(∀ d ∈ l,d.natAbs ≤ D) -> (joinOf m l).natAbs + D ≤ D * 2 ^ (m * l.length)
  | [],_ => by simp [joinOf]
  | d :: l,h => by
    have ih := joinOf_le hm fun d hd => h d (List.mem_cons_of_mem _ hd)
    have hd := h d List.mem_cons_self
    rw [joinOf,List.length_cons]
    have h1 : (d + joinOf m l * 2 ^ m).natAbs ≤ d.natAbs + (joinOf m l).natAbs * 2 ^ m := by
      refine Nat.le_trans (Int.natAbs_add_le _ _) ?_
      rw [Int.natAbs_mul,Int.natAbs_pow]
      exact Nat.le_refl _
    generalize (joinOf m l).natAbs = j at *
    have e : D * 2 ^ (m * (l.length + 1)) = D * 2 ^ (m * l.length) * 2 ^ m := by
      rw [Nat.mul_add,Nat.mul_one,Nat.pow_add,Nat.mul_assoc]
    rw [e]
    have h2 : (j + D) * 2 ^ m ≤ D * 2 ^ (m * l.length) * 2 ^ m := Nat.mul_le_mul_right _ ih
    have h3 : D * 2 ≤ D * 2 ^ m := Nat.mul_le_mul_left _ (by
      obtain ⟨k,rfl⟩ : ∃ k,m = k + 1 := ⟨m - 1,by lia⟩
      rw [Nat.pow_succ]
      have := Nat.two_pow_pos k
      lia)
    rw [Nat.add_mul] at h2
    lia
theorem joinOf_bits {m : Nat} (hm : 0 < m) {l : List Int} (h : ∀ d ∈ l,bits d ≤ 100000) : bits (joinOf m l) ≤ 100000 + m * l.length := by
  refine intBits_le_iff.mpr ?_
  rw [Nat.pow_add]
  have h1 := joinOf_le (D:=2 ^ 100000) hm fun d hd => Nat.le_of_lt (intBits_le_iff.mp (h d hd))
  have h2 : 0 < 2 ^ 100000 := Nat.two_pow_pos _
  generalize 2 ^ 100000 = D at *
  lia
theorem mid_of (L R : Nat) : ((L : Int) + R).fdiv (2 ^ 1) = (((L + R) / 2 : Nat) : Int) := by
  rw [show ((2 : Int) ^ 1) = ((2 : Nat) : Int) from rfl,show ((L : Int) + R) = ((L + R : Nat) : Int) by push_cast; rfl,Int.ofNat_fdiv]
section
variable {prog : Program} {w : World} {A : Around} {E : Value -> Shared -> Prop} {s : Shared}
theorem setItem_plain {l : Addr} {vs : List Value} {k : Int} {t : Tok} {v : Value} {Q : Unit -> Shared -> Prop} (hl : IsPl s.heap l vs) (h0 : 0 ≤ k) (hn : k < vs.length) (hfit : k < 2 ^ 63)
    (hQ : ∀ h',IsPl h' l (vs.set k.toNat v) -> Heap.SameBut l s.heap h' -> Q () { s with heap := h' }) :
    wpAny (model prog w) A (setItem (.ref l) (.int k t) v) Q E s := by
  obtain ⟨m,ho⟩ := hl
  have hli : s.heap.IsList l vs.toArray := ⟨_,ho,rfl,m,rfl⟩
  unfold setItem
  try with_reducible refine wpAny_holding ?_
  first | refine wpAny_bind (wpAny_pure ?_) | skip
  refine wpAny_bind (wpAny_sequenceKey hli.typeIs (by decide) (wpAny_bind (wpAny_callSpecial?_slot (name:=Str.ofString "__setitem__") hli.typeIs slot_list_setitem
    (wpAny_call_entry slot_list_setitem hli.typeIs entry_list_setitem ?_ (args_list_setitem _ _ _)))))
  show wpAny _ _ (Builtin.List.listSubscript? (.int k t) >>= _) _ _ s
  refine wpAny_bind (wpAny_listSubscript_int (fitsIndex_of h0 hfit) ?_)
  clear hfit
  obtain ⟨j,rfl⟩ := Int.eq_ofNat_of_zero_le h0
  have hj : j < vs.length := by lia
  have hg : vs.toArray[j]? = some vs[j] := by simp [hj]
  have hup := PySem.IsL.update (n:=m) ho (fun xs => xs.setIfInBounds j v)
  have e : vs.toArray.setIfInBounds j v = (vs.set j v).toArray := by simp
  simp only [e] at hup
  have fin : Q () { s with heap := s.heap.update l (Obj.mapSeq (·.setIfInBounds j v)) } := hQ _ ⟨_,hup⟩ (Heap.SameBut.update ..)
  show wpAny _ _ ((seqItemAt l j >>= fun r => pure (r.map (j,·))) >>= _) _ _ s
  refine wpAny_bind (wpAny_bind (wpAny_seqItemAt ho rfl (wpAny_pure ?_)))
  rw [hg]
  show wpAny _ _ (setSeqItemAt l j v >>= _) _ _ s
  refine wpAny_bind (wpAny_setSeqItemAt ho rfl ?_)
  first
    | exact wpAny_bind (wpAny_pure (wpAny_pure ⟨.none,rfl,wpAny_pure fin⟩))
    | exact wpAny_pure ⟨.none,rfl,wpAny_pure fin⟩
end
theorem bitXor_low (x s : Nat) : Builtin.bitXor (x : Int) (((x / 2 ^ s : Nat) : Int) * 2 ^ s) = ((x % 2 ^ s : Nat) : Int) := by
  have e : (((x / 2 ^ s : Nat) : Int) * 2 ^ s) = ((x / 2 ^ s * 2 ^ s : Nat) : Int) := by push_cast; rfl
  rw [e,bitXor_and,bitAnd_pp (by lia) (by lia),Int.toNat_natCast,Int.toNat_natCast]
  have h1 : x &&& (x / 2 ^ s * 2 ^ s) = x / 2 ^ s * 2 ^ s := by
    apply Nat.eq_of_testBit_eq
    intro i
    rw [Nat.testBit_and,Nat.testBit_mul_two_pow,Nat.testBit_div_two_pow]
    by_cases h : s ≤ i
    · simp [h]
    · simp [h]
  rw [h1]
  have := Nat.div_add_mod x (2 ^ s)
  rw [Nat.mul_comm] at this
  lia
noncomputable def put (cur : List V) (L : Nat) (ds : List V) : List V := cur.take L ++ ds ++ cur.drop (L + ds.length)
noncomputable def dig (x m k : Nat) : List V := (List.range k).map fun i => .int ((x / 2 ^ (m * i) % 2 ^ m : Nat) : Int)
theorem put_length {cur : List V} {L : Nat} {ds : List V} (h : L + ds.length ≤ cur.length) : (put cur L ds).length = cur.length := by
  unfold put
  simp only [List.length_append,List.length_take,List.length_drop]
  lia
theorem dig_length (x m k : Nat) : (dig x m k).length = k := by simp [dig]
theorem put_put {cur : List V} {L : Nat} {a b : List V} (h : L + a.length + b.length ≤ cur.length) : put (put cur L a) (L + a.length) b = put cur L (a ++ b) := by
  unfold put
  have h1 : (cur.take L ++ a).length = L + a.length := by
    rw [List.length_append,List.length_take]; lia
  rw [List.take_left' h1,List.length_append,<- List.append_assoc,List.drop_append,h1]
  have h2 : List.drop (L + a.length + b.length) (cur.take L ++ a) = [] := List.drop_of_length_le (by rw [h1]; lia)
  rw [h2,List.nil_append,List.drop_drop]
  congr 2
  lia
theorem dig_split {x m j k : Nat} : dig x m (j + k) = dig (x % 2 ^ (m * j)) m j ++ dig (x / 2 ^ (m * j)) m k := by
  unfold dig
  rw [List.range_add,List.map_append,List.map_map]
  congr 1
  · refine List.map_congr_left fun i hi => ?_
    have hi' : i < j := List.mem_range.mp hi
    have : x / 2 ^ (m * i) % 2 ^ m = x % 2 ^ (m * j) / 2 ^ (m * i) % 2 ^ m := by
      obtain ⟨d,rfl⟩ : ∃ d,j = i + 1 + d := ⟨j - i - 1,by lia⟩
      rw [show m * (i + 1 + d) = m * i + (m + m * d) by rw [Nat.mul_add,Nat.mul_add,Nat.mul_one,Nat.add_assoc],Nat.pow_add,Nat.mod_mul_right_div_self,Nat.pow_add]
      rw [Nat.mod_mul_right_mod]
    rw [this]
  · refine List.map_congr_left fun i hi => ?_
    show V.int _ = V.int _
    congr 2
    rw [Nat.div_div_eq_div_mul,<- Nat.pow_add,Nat.mul_add]
theorem dig_one {x m : Nat} (h : x < 2 ^ m) : dig x m 1 = [.int x] := by
  simp [dig,List.range_succ]
  exact Int.emod_eq_of_lt (by lia) (by exact_mod_cast h)
theorem put_one {cur : List V} {L : Nat} {d : V} (h : L < cur.length) : put cur L [d] = cur.set L d := by
  unfold put
  rw [List.set_eq_take_append_cons_drop,if_pos h]
  simp
end
section
set_option genInjectivity false
set_option genSizeOfSpec false
noncomputable abbrev nmD : List Str := ["L","R","mid","shift","digits","n"]
noncomputable abbrev namesD : List (Str × NameKind) := [("L",.local),("R",.local),("mid",.local),("shift",.local),("digits",.free),("inner",.free),("n",.free)]
noncomputable abbrev KD : Kd := fun x => namesD.lookup x
noncomputable abbrev xMid (l r : Nat) : X := .bin .RShift (.bin .Add (.var l) (.var r)) (.lit (.int 1))
noncomputable abbrev xShift (l m n : Nat) : X := .bin .Mult (.bin .Sub (.var m) (.var l)) (.var n)
noncomputable abbrev xEq (l r : Nat) : X := .cmp .Eq (.bin .Add (.var l) (.lit (.int 1))) (.var r)
structure Clo (c : Cx) (σ : St) (f : Addr) (qual : Str) (params : Arguments) (body : List Stmt) (scope : Scope) (clos : List (Str × Addr)) : Prop where
  fn : CloFn σ.Φ f "inner" qual params body scope clos
  C : Cells c σ scope clos
  me : Cap σ clos "inner" fun _ v => v = .ref f
section
variable {c : Cx} {X : Addr -> Prop} {σ σ' : St} {f : Addr} {qual : Str} {params : Arguments} {body : List Stmt} {scope : Scope} {clos : List (Str × Addr)}
theorem Clo.step (h : Clo c σ f qual params body scope clos) (w : Spx c X σ σ') (hX : ∀ x cl,clos.lookup x = some cl -> ¬ X cl) : Clo c σ' f qual params body scope clos := ⟨h.fn.mono (Wd.le w),h.C.step w hX,h.me.step h.C w hX fun _ e => e⟩
theorem Clo.cell (h : Clo c σ f qual params body scope clos) : ∃ cl,clos.lookup ("inner" : Str) = some cl /\ σ.s.heap.IsCell cl (some (.ref f)) := let ⟨cl,v,e1,e2,e3⟩ := h.me; ⟨cl,e1,e3 ▸ e2⟩
theorem Clo.no (h : Clo c σ f qual params body scope clos) {x : Str} (hx : (x,NameKind.free) ∉ scope.names) : clos.lookup x = none := by
  cases e : clos.lookup x with
  | none => rfl
  | some cl => exact absurd (h.C.fr x cl e) hx
end
section
variable {F : Fx} {ρ : Loc} {O : Ow} {σ : St}
theorem asg_local (N : Nm F.τ) {x : X} {e : Expr} {p1 p2 : Pos} {d : V} {i : Nat} {y : Str} {Q : Flow -> Shared -> Prop} (a : Ok F ρ O σ) (hx : AllE F e x) (hs : ∀ tg line env,swapsWith e tg line env = pure false) (ev : evE F.ε x ρ = some (.v d)) (hi : F.τ.nm[i]? = some y) (hK : F.K y = some .local) (hno : F.env.cells.lookup y = none)
    (h : ∀ σ',Spx F.c (· = F.env.locals) σ σ' -> Ok F (ρ.set i (some (.v d))) O σ' -> Q .next σ'.s) : F.W (exec (.Assign [.Name y p1] e p2) F.env) Q σ.s :=
  wpAny_Assign_Name ((hx.e ρ O σ _ a ev).then a fun v σ1 w1 r1 a1 => GoU.then a1 (store_var N a1 (i:=i) (d:=.v d) ⟨hi,.inl hK⟩ r1 trivial) fun _ s2 w2 a2 =>
    h ⟨σ1.Φ,s2⟩ (Wd.trans (Wd.any w1) w2 fun b hb => .inl (hb.elim id fun hb => noneE (hno.symm.trans hb))) a2) (hs _ _ _)
theorem GoT.if {e : Expr} {x : X} {b : Bool} {es fs : List Stmt} {p : Pos} {Q : Flow -> Shared -> Prop} (a : Ok F ρ O σ) (hx : AllE F e x) (ev : evT F.ε x ρ = some b) (h : ∀ σ',Sp F.c σ σ' -> Ok F ρ O σ' -> F.W (execs (if b then es else fs) F.env) Q σ'.s) : F.W (exec (.If e es fs p) F.env) Q σ.s :=
  wpAny_If ((hx.t ρ O σ b a ev).then a fun σ1 w1 a1 => match b,h σ1 w1 a1 with
    | true,h => h
    | false,h => h)
end
theorem bind2 {α β γ : Type} {o : Option α} {p : Option β} {f : α -> β -> Option γ} {a : α} {b : β} (h1 : o = some a) (h2 : p = some b) : (o.bind fun x => p.bind fun y => f x y) = f a b := by subst h1; subst h2; rfl
theorem evBin {ε : Ev} {ρ : Loc} {op : Operator} {x y : X} {a b z : Int} (h1 : evE ε x ρ = some (.v (.int a))) (h2 : evE ε y ρ = some (.v (.int b))) (h : binInt op a b = some z) : evE ε (.bin op x y) ρ = some (.v (.int z)) :=
  (bind2 h1 h2 : evE ε (.bin op x y) ρ = _).trans (congrArg (Option.map fun z => D.v (.int z)) h)
theorem shr {a b z : Int} (h0 : 0 ≤ b) (h : a.fdiv (2 ^ b.toNat) = z) : binInt .RShift a b = some z := (if_pos h0).trans (congrArg some h)
theorem shl {a b : Int} (h : 0 ≤ b /\ (bits a : Int) + b ≤ 2 ^ 27) : binInt .LShift a b = some (a * 2 ^ b.toNat) := if_pos h
theorem mul {a b : Int} (h : bits a + bits b ≤ 2 ^ 27) : binInt .Mult a b = some (a * b) := if_pos h
theorem place_nat {n k : Nat} (h : k < n) : place n k = some k := (if_pos (Int.natCast_nonneg k)).trans (if_pos (Int.ofNat_lt.mpr h))
theorem subAt {l : List V} {k : Nat} {d : V} (hl : l.length ≤ lim) (h : l[k]? = some d) : subD (.v (.list l)) (.v (.int k)) = some (.v d) :=
  (if_pos hl).trans ((congrArg (fun o : Option Nat => o.bind fun j => (l[j]?).map D.v) (place_nat (List.getElem?_eq_some_iff.mp h).1)).trans (congrArg (Option.map D.v) h))
theorem mids {L R k : Nat} (h1 : L < R) (h : ¬ L + 1 = R) (h3 : R - L ≤ 2 ^ (k + 1)) : ∃ M : Nat,((L : Int) + R).fdiv (2 ^ 1) = M /\ L < M /\ M < R /\ R - M ≤ 2 ^ k /\ M - L ≤ 2 ^ k := by
  rw [Nat.pow_succ] at h3
  have hmid := mid_of L R
  generalize hM : (L + R) / 2 = M at hmid
  exact ⟨M,hmid,by lia,by lia,by lia,by lia⟩
theorem bits_leN {x : Int} {b : Nat} (h : x.natAbs ≤ b) : bits x ≤ b := intBits_le_iff.mpr (Nat.lt_of_le_of_lt h Nat.lt_two_pow_self)
theorem bits_div (x k : Nat) : bits ((x / k : Nat) : Int) ≤ bits (x : Int) := intBits_le_of_natAbs (y:=(x : Int)) (by rw [Int.natAbs_natCast,Int.natAbs_natCast]; exact Nat.div_le_self _ _) (Nat.le_refl _)
theorem bits_mod (x k : Nat) : bits ((x % k : Nat) : Int) ≤ bits (x : Int) := intBits_le_of_natAbs (y:=(x : Int)) (by rw [Int.natAbs_natCast,Int.natAbs_natCast]; exact Nat.mod_le _ _) (Nat.le_refl _)
theorem shift_ok {L M m : Nat} (h : L ≤ M) (hM : M ≤ 1000) (hm : m ≤ 10000) : binInt .Mult ((M : Int) - L) m = some ((m * (M - L) : Nat) : Int) := by
  have q1 : bits ((M : Int) - L) ≤ 1000 := bits_leN (by lia)
  have q2 : bits (m : Int) ≤ 10000 := bits_leN (by lia)
  rw [mul (by lia),Nat.mul_comm,Int.natCast_mul,Int.ofNat_sub h]
theorem evV {ε : Ev} {i : Nat} {d : D} {ρ : Loc} (h : ρ[i]? = some (some d)) : evE ε (.var i) ρ = some d := (congrArg (·.bind id) h : evE ε (.var i) ρ = _)
theorem evEq {ε : Ev} {L R : Int} {ρ : Loc} {i j : Nat} (h1 : ρ[i]? = some (some (.v (.int L)))) (h2 : ρ[j]? = some (some (.v (.int R)))) : evT ε (xEq i j) ρ = some (decide (L + 1 = R)) :=
  (bind2 (evBin (op:=.Add) (evV h1) rfl rfl) (evV h2) : evT ε (xEq i j) ρ = _)
section
variable (c : Cx) (τ : Tb) (ε : Ev) (n : Nat)
structure InD (ib : List Stmt) : Type where
  (t1 r1 l2 r2 l3 r3 e4 : Expr) (op2 op3 : Operator) (a1 a2 : List Expr) (p1 p2 p3 p4 p5 p6 p7 p8 p9 p10 p11 p12 p13 q2 q3 : Pos)
  h : ib = [.If t1 [.Return (some r1) p1] [] p2,.Assign [.Name "mid" p3] (.BinOp l2 op2 r2 q2) p4,.Assign [.Name "shift" p5] (.BinOp l3 op3 r3 q3) p6,
        .Return (some (.BinOp (.BinOp (.Call (.Name "inner" p7) a1 [] p8) .LShift e4 p9) .Add (.Call (.Name "inner" p10) a2 [] p11) p12)) p13]
  x1 : Snd c τ ε n KD t1
  y1 : Snd c τ ε n KD r1
  x2 : Snd c τ ε n KD (.BinOp l2 op2 r2 q2)
  x3 : Snd c τ ε n KD (.BinOp l3 op3 r3 q3)
  x4 : Snd c τ ε n KD e4
  z1 : Snds c τ ε n KD a1
  z2 : Snds c τ ε n KD a2
variable {c τ ε n}
theorem Snd.to {K : Kd} {e : Expr} {x : X} (a : Snd c τ ε n K e) (h : a.1 = x) (A : Around) (env : Env) : AllE (fx c τ ε n K A env) e x := h ▸ a.2 A env
theorem Snds.to {K : Kd} {es : List Expr} {xs : Xs} (a : Snds c τ ε n K es) (h : a.xs = xs) (A : Around) (env : Env) : AllXs (fx c τ ε n K A env) es xs := h ▸ a.h A env
noncomputable abbrev T7 : Type := X × X × X × X × X × Xs × Xs
noncomputable def InD.terms {ib : List Stmt} (I : InD c τ ε n ib) : T7 := (I.x1.1,I.y1.1,I.x2.1,I.x3.1,I.x4.1,I.z1.xs,I.z2.xs)
noncomputable abbrev termsD : T7 := (xEq 0 1,.sub (.var 4) (.var 0),xMid 0 1,xShift 0 2 5,.var 3,.cons (.var 2) (.cons (.var 1) .nil),.cons (.var 0) (.cons (.var 2) .nil))
section
variable {ib : List Stmt} {I : InD c τ ε n ib} (h : I.terms = termsD) (A : Around) (env : Env)
include h
theorem InD.c1 : AllE (fx c τ ε n KD A env) I.t1 (xEq 0 1) := Snd.to I.x1 (congrArg (·.1) h) A env
theorem InD.c2 : AllE (fx c τ ε n KD A env) I.r1 (.sub (.var 4) (.var 0)) := Snd.to I.y1 (congrArg (·.2.1) h) A env
theorem InD.c3 : AllE (fx c τ ε n KD A env) (.BinOp I.l2 I.op2 I.r2 I.q2) (xMid 0 1) := Snd.to I.x2 (congrArg (·.2.2.1) h) A env
theorem InD.c4 : AllE (fx c τ ε n KD A env) (.BinOp I.l3 I.op3 I.r3 I.q3) (xShift 0 2 5) := Snd.to I.x3 (congrArg (·.2.2.2.1) h) A env
theorem InD.c5 : AllE (fx c τ ε n KD A env) I.e4 (.var 3) := Snd.to I.x4 (congrArg (·.2.2.2.2.1) h) A env
theorem InD.c6 : AllXs (fx c τ ε n KD A env) I.a1 (.cons (.var 2) (.cons (.var 1) .nil)) := I.z1.to (congrArg (·.2.2.2.2.2.1) h) A env
theorem InD.c7 : AllXs (fx c τ ε n KD A env) I.a2 (.cons (.var 0) (.cons (.var 2) .nil)) := I.z2.to (congrArg (·.2.2.2.2.2.2) h) A env
end
noncomputable def lastD (G : Gd c τ ε n) {t1 r1 : Expr} {p1 p2 p3 p4 p5 p6 : Pos} {e2 e3 : Expr} (x1 : Snd c τ ε n KD t1) (y1 : Snd c τ ε n KD r1) (p13 : Pos) : ∀ e : Expr,Option (InD c τ ε n [.If t1 [.Return (some r1) p1] [] p2,.Assign [.Name "mid" p3] e2 p4,.Assign [.Name "shift" p5] e3 p6,.Return (some e) p13])
  | .BinOp (.BinOp (.Call (.Name x p7) a1 [] p8) .LShift e4 p9) .Add (.Call (.Name y p10) a2 [] p11) p12 => match e2,e3 with
    | .BinOp l2 op2 r2 q2,.BinOp l3 op3 r3 q3 => if h : x = "inner" /\ y = "inner" then
      (toX G 100 KD (.BinOp l2 op2 r2 q2)).bind fun x2 => (toX G 100 KD (.BinOp l3 op3 r3 q3)).bind fun x3 => (toX G 100 KD e4).bind fun x4 => (listX (toX G 100 KD) a1).bind fun z1 => (listX (toX G 100 KD) a2).bind fun z2 =>
        some ⟨t1,r1,l2,r2,l3,r3,e4,op2,op3,a1,a2,p1,p2,p3,p4,p5,p6,p7,p8,p9,p10,p11,p12,p13,q2,q3,by rw [h.1,h.2],x1,y1,x2,x3,x4,z1,z2⟩ else none
    | _,_ => none
  | _ => none
noncomputable def innerD (G : Gd c τ ε n) : ∀ ib : List Stmt,Option (InD c τ ε n ib)
  | [.If t1 [.Return (some r1) p1] [] p2,.Assign [.Name y2 p3] e2 p4,.Assign [.Name y3 p5] e3 p6,.Return (some e) p13] => if h : y2 = "mid" /\ y3 = "shift" then
      (toX G 100 KD t1).bind fun x1 => (toX G 100 KD r1).bind fun y1 => (by rw [h.1,h.2]; exact lastD G x1 y1 p13 e) else none
  | _ => none
end
end
section
set_option genInjectivity false
set_option genSizeOfSpec false
structure ClD (c : Cx) (σ : St) (f : Addr) (qual : Str) (params : Arguments) (body : List Stmt) (scope : Scope) (clos : List (Str × Addr)) (l : List Int) (m : Nat) : Prop where
  k : Clo c σ f qual params body scope clos
  d : Cap σ clos "digits" fun Φ v => Rep Φ (.list (l.map V.int)) v
  n : Cap σ clos "n" fun Φ v => Rep Φ (.int m) v
section
variable {c : Cx} {X : Addr -> Prop} {σ σ' : St} {f : Addr} {qual : Str} {params : Arguments} {body : List Stmt} {scope : Scope} {clos : List (Str × Addr)} {l : List Int} {m : Nat}
theorem ClD.step (h : ClD c σ f qual params body scope clos l m) (w : Spx c X σ σ') (hX : ∀ x cl,clos.lookup x = some cl -> ¬ X cl) : ClD c σ' f qual params body scope clos l m := ⟨h.k.step w hX,h.d.step h.k.C w hX fun _ r => r.mono (Wd.le w),h.n.step h.k.C w hX fun _ r => r.mono (Wd.le w)⟩
theorem ClD.on (h : ClD c σ f qual params body scope clos l m) (w : Sp c σ σ') : ClD c σ' f qual params body scope clos l m := h.step w fun _ _ _ q => q
variable {fn gn : List Str} {tn : Str} {ε : Ev}
noncomputable abbrev ρD (L R : Int) (a b : Option D) (l : List Int) (m : Nat) : Loc := [some (.v (.int L)),some (.v (.int R)),a,b,some (.v (.list (l.map V.int))),some (.v (.int m))]
noncomputable abbrev τD (fn gn : List Str) (tn : Str) : Tb := ⟨nmD,fn,gn,tn⟩
theorem nmD_nodup : nmD.Nodup := by decide
theorem dEnter (ok : InnerOk nmD 2 params scope) (hsc : scope.names = namesD) {A : Around} {vs : List Value} {L R : Int} {Q : Value -> Shared -> Prop} (hR : Room A 1) (hk : OkS c σ.Φ σ.s) (ht : 0 < σ.s.toks) (H : ClD c σ f qual params body scope clos l m) (r : Reps σ.Φ [.int L,.int R] vs)
    (h : ∀ env σ1,Sp c σ σ1 -> env.cells = clos -> σ.s.heap.get? env.locals = none -> (∀ x cl,clos.lookup x = some cl -> cl ≠ env.locals) -> Ok (fx c (τD fn gn tn) ε 0 KD (A.deeper env) env) (ρD L R none none l m) (fun _ => none) σ1 ->
      W c (A.deeper env) (execs body env) (fun fl s' => Q (match fl with | .ret v => v | _ => .none) s') σ1.s) :
    W c A (call (.ref f) vs) Q σ.s :=
  inner_call (τ:=τD fn gn tn) (ε:=ε) (n:=0) (k:=4) ok rfl H.k.fn H.k.C hk ht hR r fun env s1 w e1 e2 e3 a => by
    obtain ⟨cd,v,q1,q2,q3⟩ := H.d.step H.k.C w (fun _ _ _ q => q) fun _ r => r
    obtain ⟨cn,u,q4,q5,q6⟩ := H.n.step H.k.C w (fun _ _ _ q => q) fun _ r => r
    rw [hsc] at a
    have kD : ∀ x,KD x = some .free -> env.kindOf x ≠ some .local := fun x e q => by rw [a.K,show (fx c (τD fn gn tn) ε 0 (fun y => List.lookup y namesD) (A.deeper env) env).K x = KD x from rfl,e] at q; cases q
    refine h env ⟨σ.Φ,s1⟩ w e1 e2 e3 ⟨a.K,a.R,?_,a.k,a.t⟩
    exact (a.fr.learn nmD_nodup (i:=4) rfl (kD _ rfl) (e1.symm ▸ q1) q2 q3).learn nmD_nodup (i:=5) rfl (kD _ rfl) (e1.symm ▸ q4) q5 q6
theorem d_leaf {body : List Stmt} {I : InD c (τD fn gn tn) ε 0 body} (hI : I.terms = termsD) (ok : InnerOk nmD 2 params scope) (hsc : scope.names = namesD) (hl : l.length ≤ 1000)
    {L R : Nat} (h1 : L + 1 = R) (h2 : R ≤ l.length) {A : Around} {vs : List Value} (hR : Room A 1) (hk : OkS c σ.Φ σ.s) (ht : 0 < σ.s.toks) (H : ClD c σ f qual params body scope clos l m) (r : Reps σ.Φ [.int L,.int R] vs) :
      W c A (call (.ref f) vs) (PostV c σ.Φ σ.s (.int (joinOf m (sliceI l L R)))) σ.s := by
  refine dEnter (fn:=fn) (gn:=gn) (tn:=tn) (ε:=ε) ok hsc hR hk ht H r fun env σ1 w1 hcells hnew hloc a => ?_
  have hbe : execs body env = _ := congrArg (execs · env) I.h
  rw [hbe]
  have hL : L < l.length := by lia
  have ev1 : evT ε (xEq 0 1) (ρD L R none none l m) = some true := (evEq rfl rfl).trans (congrArg some (decide_eq_true (by lia)))
  have ev2 : evE ε (.sub (.var 4) (.var 0)) (ρD L R none none l m) = some (.v (.int l[L])) := by
    have h5 : (l.map V.int).length ≤ lim := by rw [List.length_map]; simp only [lim]; lia
    exact subAt h5 (by rw [List.getElem?_map,List.getElem?_eq_getElem hL]; rfl)
  refine wpAny_execs_cons (GoT.if a (InD.c1 hI _ _) ev1 fun σ2 w2 a2 => wpAny_execs_cons (wpAny_Return_some (((InD.c2 hI _ _).e _ _ _ _ a2 ev2).then a2 fun v σ3 w3 r3 a3 => ⟨σ3.Φ,(w1.to w2).to w3,?_⟩)))
  have e : sliceI l L R = [l[L]] := by
    unfold sliceI
    rw [show R - L = 1 by lia,List.drop_eq_getElem_cons hL]
    rfl
  rw [e]
  have r3' : Rep σ3.Φ (.int l[L]) v := r3
  rwa [joinOf,joinOf,Int.zero_mul,Int.add_zero]
theorem d_inner {body : List Stmt} (N : Nm (τD fn gn tn)) {I : InD c (τD fn gn tn) ε 0 body} (hI : I.terms = termsD) (ok : InnerOk nmD 2 params scope) (hsc : scope.names = namesD)
    (hm : 0 < m) (hm2 : m ≤ 10000) (hl : l.length ≤ 1000) (hb : ∀ d ∈ l,bits d ≤ 100000) :
    ∀ (k L R : Nat),L < R -> R ≤ l.length -> R - L ≤ 2 ^ k -> ∀ (A : Around) (σ : St) (vs : List Value),Room A (k + 1) -> OkS c σ.Φ σ.s -> 0 < σ.s.toks -> ClD c σ f qual params body scope clos l m -> Reps σ.Φ [.int L,.int R] vs ->
      W c A (call (.ref f) vs) (PostV c σ.Φ σ.s (.int (joinOf m (sliceI l L R)))) σ.s := by
  intro k
  induction k with
  | zero => exact fun L R h1 h2 h3 A σ vs hR hk ht H r => d_leaf hI ok hsc hl (by simp at h3; lia) h2 hR hk ht H r
  | succ k ih =>
    intro L R h1 h2 h3 A σ vs hR hk ht H r
    by_cases hLR : L + 1 = R
    · exact d_leaf hI ok hsc hl hLR h2 (hR.le (by lia)) hk ht H r
    obtain ⟨M,hmid,hM1,hM2,hM3,hM4⟩ := mids h1 hLR h3
    have hMl : M ≤ 1000 := Nat.le_trans (Nat.le_of_lt (Nat.lt_of_lt_of_le hM2 h2)) hl
    refine dEnter (fn:=fn) (gn:=gn) (tn:=tn) (ε:=ε) ok hsc (hR.le (by lia)) hk ht H r fun env σ1 w1 hcells hnew hloc a => ?_
    have hbe : execs body env = _ := congrArg (execs · env) I.h
    rw [hbe]
    have noc : ∀ {x : Str},(x,NameKind.free) ∉ namesD -> env.cells.lookup x = none := fun hx => hcells ▸ H.k.no (hsc ▸ hx)
    have ev1 : evT ε (xEq 0 1) (ρD L R none none l m) = some false := (evEq rfl rfl).trans (congrArg some (decide_eq_false (by lia)))
    have ev2 : evE ε (xMid 0 1) (ρD L R none none l m) = some (.v (.int M)) := by
      exact evBin (evBin rfl rfl rfl) rfl (shr (by decide) hmid)
    have ev3 : evE ε (xShift 0 2 5) (ρD L R (some (.v (.int M))) none l m) = some (.v (.int (m * (M - L) : Nat))) := evBin (evBin rfl rfl rfl) rfl (shift_ok (Nat.le_of_lt hM1) hMl hm2)
    refine wpAny_execs_cons (GoT.if a (InD.c1 hI _ _) ev1 fun σ2 w2 a2 => wpAny_execs_nil (wpAny_execs_cons (asg_local N a2 (InD.c3 hI _ _) (fun _ _ _ => rfl) ev2 (i:=2) rfl rfl (noc (by decide)) fun σ3 w3 a3 => wpAny_execs_cons (asg_local N a3 (InD.c4 hI _ _) (fun _ _ _ => rfl) ev3 (i:=3) rfl rfl (noc (by decide)) fun σ4 w4 a4 => ?_))))
    have w : Spx c (· = env.locals) σ σ4 := Wd.trans (Wd.trans (Wd.any (w1.to w2)) w3 fun _ q => .inl q) w4 fun _ q => .inl q
    have H4 := H.step w hloc
    obtain ⟨ci,hci,hc4⟩ := H4.k.cell
    refine wpAny_execs_cons (wpAny_Return_some (wpAny_BinOp (wpAny_BinOp (call_cell (ds:=[.v (.int M),.v (.int R)]) (zs:=[.int M,.int R]) a4 (InD.c6 hI _ _) rfl rfl (hcells.symm ▸ hci) (.inr rfl) hc4 H4.k.fn rfl rfl fun σ5 us w5 r5 a5 => ?_))))
    have H5 := H4.on w5
    refine wpAny_mono (withToks a5.t (ih M R hM2 h2 hM3 _ σ5 us (hR.deeper env) a5.k a5.t H5 r5)) (fun v s6 ⟨⟨Φ6,w6,r6⟩,t6⟩ => ?_) fun _ _ q => q
    have w6 : Sp c σ5 ⟨Φ6,s6⟩ := w6
    have a6 := a5.next w6 t6
    refine Go.then a6 ((InD.c5 hI _ _).e _ _ _ (.v (.int (m * (M - L) : Nat))) a6 rfl) fun u σ7 w7 r7 a7 => ?_
    obtain ⟨tv,rfl⟩ := Rep.int_inv r6
    obtain ⟨tu,rfl⟩ := Rep.int_inv (show Rep σ7.Φ (.int (m * (M - L) : Nat)) u from r7)
    have hbits := joinOf_bits (l:=sliceI l M R) hm fun d hd => hb d (List.mem_of_mem_drop (List.mem_of_mem_take hd))
    rw [slice_len (Nat.le_of_lt hM2) h2] at hbits
    have hb1 : m * (R - M) ≤ 10000 * 1000 := Nat.mul_le_mul hm2 (by lia)
    have hb2 : m * (M - L) ≤ 10000 * 1000 := Nat.mul_le_mul hm2 (by lia)
    have evs : binInt .LShift (joinOf m (sliceI l M R)) (m * (M - L) : Nat) = some (joinOf m (sliceI l M R) * 2 ^ (m * (M - L))) := shl ⟨by lia,by lia⟩
    have eva : binInt .Add (joinOf m (sliceI l M R) * 2 ^ (m * (M - L))) (joinOf m (sliceI l L M)) = some (joinOf m (sliceI l L R)) := by
      show some _ = some _
      rw [slice_split (Nat.le_of_lt hM1) (Nat.le_of_lt hM2),joinOf_append,slice_len (Nat.le_of_lt hM1) (by lia),Int.add_comm]
    refine Go.then a7 (.mk a7 (op_binInt (O:=fun _ => none) a7.k evs)) fun v σ8 w8 r8 a8 => ?_
    have H8 := ((H5.on w6).on w7).on w8
    obtain ⟨ci',hci',hc8⟩ := H8.k.cell
    refine call_cell (ds:=[.v (.int L),.v (.int M)]) (zs:=[.int L,.int M]) a8 (InD.c7 hI _ _) rfl rfl (hcells.symm ▸ hci') (.inr rfl) hc8 H8.k.fn rfl rfl fun σ9 us w9 r9 a9 => ?_
    refine wpAny_mono (withToks a9.t (ih L M hM1 (by lia) hM4 _ σ9 us (hR.deeper env) a9.k a9.t (H8.on w9) r9)) (fun u s10 ⟨⟨Φ10,w10,r10⟩,t10⟩ => ?_) fun _ _ q => q
    have w10 : Sp c σ9 ⟨Φ10,s10⟩ := w10
    obtain ⟨tv2,rfl⟩ := Rep.int_inv (show Rep σ8.Φ (.int (joinOf m (sliceI l M R) * 2 ^ (m * (M - L)))) v from r8)
    obtain ⟨tu2,rfl⟩ := Rep.int_inv r10
    refine wpAny_mono (op_binInt (O:=fun _ => none) (a9.next w10 t10).k eva) (fun v s11 ⟨Φ11,w11,r11⟩ => ⟨Φ11,?_,r11⟩) fun _ _ q => q
    exact Wd.weak (Wd.trans w (((((w5.to w6).to w7).to w8).to w9).to w10 |>.to (σ'' := ⟨Φ11,s11⟩) w11) fun _ q => q.elim) fun b hb => .inr (hb ▸ hnew)
end
end
section
set_option genInjectivity false
set_option genSizeOfSpec false
noncomputable abbrev namesDo : List (Str × NameKind) := [("digits",.cell),("n",.cell),("inner",.cell),("len",.globalImplicit)]
noncomputable abbrev KDo : Kd := fun x => namesDo.lookup x
noncomputable abbrev nmDo : List Str := ["digits","n"]
noncomputable abbrev xsDo : Xs := .cons (.lit (.int 0)) (.cons (.bi .len (.cons (.var 0) .nil)) .nil)
section
variable (c : Cx) (τ τ' : Tb) (ε ε' : Ev) (n : Nat) (t : Tab)
structure HdD (params : Arguments) (scope : Scope) (body : List Stmt) : Type where
  (ip : Arguments) (ib : List Stmt) (isc : Scope) (pos : Pos) (te be : Expr) (ars : List Expr) (p1 p2 p3 p4 : Pos)
  h : body = [.FunctionDef "inner" ip ib [] none [] isc none "inner" pos,.Return (some (.IfExp te (.Call (.Name "inner" p1) ars [] p2) be p3)) p4]
  ok : FnOk τ 2 params scope /\ scope.names = namesDo /\ NestOk t ip pos /\ InnerOk nmD 2 ip isc /\ isc.names = namesD
  I : InD c τ' ε' 0 ib
  xt : Snd c τ ε n KDo te
  xb : Snd c τ ε n KDo be
  xs : Snds c τ ε n KDo ars
variable {c τ τ' ε ε' n t}
noncomputable def HdD.terms {params : Arguments} {scope : Scope} {body : List Stmt} (I : HdD c τ τ' ε ε' n t params scope body) : T7 × X × X × Xs := (I.I.terms,I.xt.1,I.xb.1,I.xs.xs)
noncomputable abbrev htermsD : T7 × X × X × Xs := (termsD,.var 0,.lit (.int 0),xsDo)
noncomputable def retD (G : Gd c τ ε n) (G' : Gd c τ' ε' 0) (t : Tab) (params : Arguments) (scope : Scope) (ip : Arguments) (ib : List Stmt) (isc : Scope) (pos p4 : Pos) : ∀ e : Expr,Option (HdD c τ τ' ε ε' n t params scope [.FunctionDef "inner" ip ib [] none [] isc none "inner" pos,.Return (some e) p4])
  | .IfExp te (.Call (.Name x p1) ars [] p2) be p3 => if h : x = "inner" /\ FnOk τ 2 params scope /\ scope.names = namesDo /\ NestOk t ip pos /\ InnerOk nmD 2 ip isc /\ isc.names = namesD then
      (innerD G' ib).bind fun I => (toX G 100 KDo te).bind fun xt => (toX G 100 KDo be).bind fun xb => (listX (toX G 100 KDo) ars).bind fun xs => some ⟨ip,ib,isc,pos,te,be,ars,p1,p2,p3,p4,by rw [h.1],h.2,I,xt,xb,xs⟩ else none
  | _ => none
noncomputable def handD (G : Gd c τ ε n) (G' : Gd c τ' ε' 0) (t : Tab) (params : Arguments) (scope : Scope) : ∀ body : List Stmt,Option (HdD c τ τ' ε ε' n t params scope body)
  | [.FunctionDef x ip ib [] none [] isc none y pos,.Return (some e) p4] => if h : x = "inner" /\ y = "inner" then (by rw [h.1,h.2]; exact retD G G' t params scope ip ib isc pos p4 e) else none
  | _ => none
end
noncomputable abbrev FitD (c : Cx) (p : Program) (fs : List (Str × FnX)) (t : Tab) : Prop :=
  ∀ ε n ε' (G : Gd c (Dt fs nmDo) ε n) (G' : Gd c (Dt fs nmD) ε' 0),(defAt p "_digits2int").map (fun d => (handD G G' t d.params d.scope d.body).map (·.terms)) = some (some htermsD)
theorem d2i_args {args : List V} {v : V} (h : hand_digits2int args = some v) : ∃ (l : List Int) (m : Nat),args = [.list (l.map V.int),.int m] /\ 0 < m /\ m ≤ 10000 /\ l.length ≤ 1000 /\ (∀ d ∈ l,bits d ≤ 100000) /\ v = .int (joinOf m l) := by
  unfold hand_digits2int at h
  split at h
  case h_2 => cases h
  rename_i l0 m0
  refine bindE h fun ds q1 h => iteE h fun hc h => ?_
  cases h
  cases allInts_map q1
  exact ⟨ds,m0.toNat,by rw [Int.toNat_of_nonneg (by omega)],by omega,by omega,hc.2.2.1,fun d hd => of_decide_eq_true (List.all_eq_true.mp hc.2.2.2 d hd),rfl⟩
theorem hand_d2i {c : Cx} {ts : List Tab} {t : Tab} (g : IsG c ts t) {p : Program} {fs : List (Str × FnX)} (fit : FitD c p fs t) (hq : ("_digits2int" : Str) ++ (".<locals>." : Str) ++ ("inner" : Str) = t.qual)
    (hcode : ∀ a params body scope o pm cd doc,c.mg "_digits2int" = some (.ref a) -> c.b0.get? a = some o -> o.data = .func (Calls.docDef "_digits2int" params body scope pm cd doc) -> cd = .ref t.c) :
    HandOk c p fs "_digits2int" 30 hand_digits2int := by
  intro d hd a fa n hn hG args v hv A Φ s vs hR hk ht r
  have G1 := hG nmDo (let ⟨a,b⟩ := (by decide : nmDo.Nodup /\ (".0" : Str) ∉ nmDo); ⟨a,b⟩)
  have G0 := G1.bare nmD (let ⟨a,b⟩ := (by decide : nmD.Nodup /\ (".0" : Str) ∉ nmD); ⟨a,b⟩)
  have f := fit _ _ _ G1 G0
  rw [hd] at f
  refine mapE (Option.some.inj f) fun H _ e => ?_
  obtain ⟨ok,hsc,hN,hI,hisc⟩ := H.ok
  obtain ⟨l,m,rfl,hm1,hm2,hl,hbs,rfl⟩ := d2i_args hv
  refine hand_enter (ε:=⟨run fs glob0 flagTab0 n,glob0,flagTab0⟩) (k:=0) fa ok rfl hR hk ht r (fun o pm cd doc q1 q2 => by
    obtain ⟨o',pm',cd',doc',r1,r2,r3,r4⟩ := fa.fn
    exact hcode a _ _ _ o pm cd doc r1 q1 q2) fun env s1 henvc henvq w1 hMut a1 => ?_
  rw [hsc] at a1
  have hbe : execs d.body env = _ := congrArg (execs · env) H.h
  rw [hbe]
  have hf : FreeOk KDo H.isc := fun p hp => by
    rw [hisc] at hp
    exact (show ∀ p ∈ namesD,p.2 = .free -> KDo p.1 = some .cell ∨ KDo p.1 = some .free by decide) p hp
  have m1 : ∀ {x : Str},(x,NameKind.free) ∈ namesD -> (x,NameKind.free) ∈ H.isc.names := fun h => hisc ▸ h
  have hlim : (l.map V.int).length ≤ lim := by rw [List.length_map]; simp only [lim]; omega
  refine wpAny_execs_cons (nest_then g a1 hN henvc (henvq ▸ hq) rfl (by show ("inner" : Str) ∉ nmDo; decide) hf fun σ2 f w2 a2 CF hc => ?_)
  have K2 : ClD c σ2 f t.qual H.ip H.ib H.isc (cloOf env.cells H.isc.names []) l m := {
    k := ⟨CF,a2.cells hf,let ⟨ci,e⟩ := a2.fr.has "inner" (.inl (a2.K "inner")); ⟨ci,_,clo_at (m1 (by decide)) e,hc ci e,rfl⟩⟩
    d := a2.cap (i:=0) rfl (.inl rfl) rfl (m1 (by decide)) fun v r => r
    n := a2.cap (i:=1) rfl (.inl rfl) rfl (m1 (by decide)) fun v r => r }
  have wfin : ∀ {σ'},Sp c σ2 σ' -> Sp c ⟨Φ,s⟩ σ' := fun w' => Wd.weak (Wd.trans (Wd.trans (Wd.any w1) w2 fun b hb => .inl hb) w' fun b hb => hb.elim) fun b hb => .inr (hMut _ (.inr ⟨_,hb⟩))
  have ev1 : evT ⟨run fs glob0 flagTab0 n,glob0,flagTab0⟩ (.var 0) (startL [.list (l.map V.int),.int m] 0) = some (!(l.map V.int).isEmpty) := if_pos hlim
  refine wpAny_execs_cons (wpAny_Return_some (wpAny_IfExp ((((H.xt.to (congrArg (·.2.1) e) _ _).t _ _ _ _ a2 ev1).then a2 fun σ4 w4 a4 => ?_))))
  cases l with
  | nil => exact ((H.xb.to (congrArg (·.2.2.1) e) _ _).e _ _ _ (.v (.int 0)) a4 rfl).then a4 fun v σ5 w5 r5 a5 => ⟨σ5.Φ,wfin (w4.to w5),r5⟩
  | cons x0 l0 =>
    have ev2 : evXs ⟨run fs glob0 flagTab0 n,glob0,flagTab0⟩ xsDo (startL [.list ((x0 :: l0).map V.int),.int m] 0) = some [.v (.int 0),.v (.int (x0 :: l0).length)] := by
      have z : lenD [.v (.list ((x0 :: l0).map V.int))] = some (.v (.int (x0 :: l0).length)) := (if_pos hlim).trans (by rw [List.length_map])
      exact bind2 rfl (bind2 (f:=fun d ds => some (d :: ds)) z rfl)
    have K4 := K2.on w4
    obtain ⟨ci,hci,hc4⟩ := K4.k.cell
    refine call_cell (zs:=[.int 0,.int (x0 :: l0).length]) a4 (H.xs.to (congrArg (·.2.2.2) e) _ _) ev2 rfl (clo_back hci) (.inl rfl) hc4 K4.k.fn rfl rfl fun σ5 us w5 r5 a5 => ?_
    refine wpAny_mono (d_inner G0.nm (I:=H.I) (congrArg (·.1) e) hI hisc hm1 hm2 hl hbs 10 0 (x0 :: l0).length (Nat.succ_pos _) (Nat.le_refl _) (Nat.le_trans hl (by decide)) _ σ5 us (a4.R.le (Nat.le_trans (by decide : 11 ≤ 30) hn)) a5.k a5.t (K4.on w5) r5) (fun v s6 ⟨Φ6,w6,r6⟩ => ⟨Φ6,wfin (σ' := ⟨Φ6,s6⟩) ((w4.to w5).to w6),?_⟩) fun _ _ q => q
    have e : sliceI (x0 :: l0) 0 (x0 :: l0).length = x0 :: l0 := List.take_length
    rwa [e] at r6
end
section
set_option genInjectivity false
set_option genSizeOfSpec false
noncomputable abbrev nmI : List Str := ["x","L","R","mid","shift","upper","lower","n"]
noncomputable abbrev namesI : List (Str × NameKind) := [("x",.local),("L",.local),("R",.local),("mid",.local),("shift",.local),("upper",.local),("lower",.local),("a_digits",.free),("inner",.free),("n",.free)]
noncomputable abbrev KI : Kd := fun x => namesI.lookup x
noncomputable abbrev xLow : X := .bin .BitXor (.var 0) (.bin .LShift (.var 5) (.var 4))
noncomputable abbrev xUp : X := .bin .RShift (.var 0) (.var 4)
noncomputable abbrev xs1I : Xs := .cons (.var 6) (.cons (.var 1) (.cons (.var 3) .nil))
noncomputable abbrev xs2I : Xs := .cons (.var 5) (.cons (.var 3) (.cons (.var 2) .nil))
section
variable (c : Cx) (τ : Tb) (ε : Ev) (n : Nat)
structure InI (ib : List Stmt) : Type where
  (t1 i1 l2 r2 l3 r3 l4 r4 l5 r5 : Expr) (nx : Str) (op2 op3 op4 op5 : Operator) (a1 a2 : List Expr) (p0 p1 p2 p3 p4 p5 p6 p7 p8 p9 p10 p11 p12 p13 p14 p15 p16 p17 p18 p19 q2 q3 q4 q5 : Pos)
  h : ib = [.If t1 [.Assign [.Subscript (.Name "a_digits" p1) i1 p2] (.Name nx p0) p3,.Return none p4] [] p5,.Assign [.Name "mid" p6] (.BinOp l2 op2 r2 q2) p7,.Assign [.Name "shift" p8] (.BinOp l3 op3 r3 q3) p9,
        .Assign [.Name "upper" p10] (.BinOp l4 op4 r4 q4) p11,.Assign [.Name "lower" p12] (.BinOp l5 op5 r5 q5) p13,.Expr (.Call (.Name "inner" p14) a1 [] p15) p16,.Expr (.Call (.Name "inner" p17) a2 [] p18) p19]
  x1 : Snd c τ ε n KI t1
  y1 : Snd c τ ε n KI i1
  y2 : Snd c τ ε n KI (.Name nx p0)
  x2 : Snd c τ ε n KI (.BinOp l2 op2 r2 q2)
  x3 : Snd c τ ε n KI (.BinOp l3 op3 r3 q3)
  x4 : Snd c τ ε n KI (.BinOp l4 op4 r4 q4)
  x5 : Snd c τ ε n KI (.BinOp l5 op5 r5 q5)
  z1 : Snds c τ ε n KI a1
  z2 : Snds c τ ε n KI a2
variable {c τ ε n}
noncomputable abbrev T9 : Type := X × X × X × X × X × X × X × Xs × Xs
noncomputable def InI.terms {ib : List Stmt} (I : InI c τ ε n ib) : T9 := (I.x1.1,I.y1.1,I.y2.1,I.x2.1,I.x3.1,I.x4.1,I.x5.1,I.z1.xs,I.z2.xs)
noncomputable abbrev termsI : T9 := (xEq 1 2,.var 1,.var 0,xMid 1 2,xShift 1 3 7,xUp,xLow,xs1I,xs2I)
noncomputable def endI (G : Gd c τ ε n) {t1 i1 : Expr} {nx : Str} {p0 p1 p2 p3 p4 p5 p6 p7 p8 p9 p10 p11 p12 p13 p16 p19 : Pos} (x1 : Snd c τ ε n KI t1) (y1 : Snd c τ ε n KI i1) (y2 : Snd c τ ε n KI (.Name nx p0)) :
    ∀ e2 e3 e4 e5 e6 e7 : Expr,Option (InI c τ ε n [.If t1 [.Assign [.Subscript (.Name "a_digits" p1) i1 p2] (.Name nx p0) p3,.Return none p4] [] p5,.Assign [.Name "mid" p6] e2 p7,.Assign [.Name "shift" p8] e3 p9,.Assign [.Name "upper" p10] e4 p11,.Assign [.Name "lower" p12] e5 p13,.Expr e6 p16,.Expr e7 p19])
  | .BinOp l2 op2 r2 q2,.BinOp l3 op3 r3 q3,.BinOp l4 op4 r4 q4,.BinOp l5 op5 r5 q5,.Call (.Name x p14) a1 [] p15,.Call (.Name y p17) a2 [] p18 => if h : x = "inner" /\ y = "inner" then
      (toX G 100 KI (.BinOp l2 op2 r2 q2)).bind fun x2 => (toX G 100 KI (.BinOp l3 op3 r3 q3)).bind fun x3 => (toX G 100 KI (.BinOp l4 op4 r4 q4)).bind fun x4 => (toX G 100 KI (.BinOp l5 op5 r5 q5)).bind fun x5 => (listX (toX G 100 KI) a1).bind fun z1 => (listX (toX G 100 KI) a2).bind fun z2 =>
        some ⟨t1,i1,l2,r2,l3,r3,l4,r4,l5,r5,nx,op2,op3,op4,op5,a1,a2,p0,p1,p2,p3,p4,p5,p6,p7,p8,p9,p10,p11,p12,p13,p14,p15,p16,p17,p18,p19,q2,q3,q4,q5,by rw [h.1,h.2],x1,y1,y2,x2,x3,x4,x5,z1,z2⟩ else none
  | _,_,_,_,_,_ => none
noncomputable def innerI (G : Gd c τ ε n) : ∀ ib : List Stmt,Option (InI c τ ε n ib)
  | [.If t1 [.Assign [.Subscript (.Name z p1) i1 p2] (.Name nx p0) p3,.Return none p4] [] p5,.Assign [.Name y2 p6] e2 p7,.Assign [.Name y3 p8] e3 p9,.Assign [.Name y4 p10] e4 p11,.Assign [.Name y5 p12] e5 p13,.Expr e6 p16,.Expr e7 p19] => if h : z = "a_digits" /\ y2 = "mid" /\ y3 = "shift" /\ y4 = "upper" /\ y5 = "lower" then
      (toX G 100 KI t1).bind fun x1 => (toX G 100 KI i1).bind fun y1 => (toX G 100 KI (.Name nx p0)).bind fun y2' => (by rw [h.1,h.2.1,h.2.2.1,h.2.2.2.1,h.2.2.2.2]; exact endI G x1 y1 y2' e2 e3 e4 e5 e6 e7) else none
  | _ => none
end
structure ClI (c : Cx) (σ : St) (f : Addr) (qual : Str) (params : Arguments) (body : List Stmt) (scope : Scope) (clos : List (Str × Addr)) (p : Addr) (cur : List V) (m : Nat) : Prop where
  k : Clo c σ f qual params body scope clos
  a : Cap σ clos "a_digits" fun _ v => v = .ref p
  n : Cap σ clos "n" fun Φ v => Rep Φ (.int m) v
  pl : ∃ vs,IsPl σ.s.heap p vs /\ Reps σ.Φ cur vs
  pf : σ.Φ p = none /\ p ∉ c.T
section
variable {c : Cx} {X : Addr -> Prop} {σ σ' : St} {f : Addr} {qual : Str} {params : Arguments} {body : List Stmt} {scope : Scope} {clos : List (Str × Addr)} {p : Addr} {cur cur' : List V} {m : Nat}
theorem ClI.apart (h : ClI c σ f qual params body scope clos p cur m) {x : Str} {b : Addr} (hb : clos.lookup x = some b) : b ≠ p := fun q => by
  obtain ⟨v,o,e,e2⟩ := h.k.C.cell x b hb
  obtain ⟨vs,⟨k,e3⟩,_⟩ := h.pl
  rw [q,e3] at e
  cases e
  cases e2
theorem ClI.re (h : ClI c σ f qual params body scope clos p cur m) (w : Spx c X σ σ') (hX : ∀ x cl,clos.lookup x = some cl -> ¬ X cl) (hpl : ∃ vs,IsPl σ'.s.heap p vs /\ Reps σ'.Φ cur' vs) (hpf : σ'.Φ p = none) : ClI c σ' f qual params body scope clos p cur' m :=
  ⟨h.k.step w hX,h.a.step h.k.C w hX fun _ e => e,h.n.step h.k.C w hX fun _ r => r.mono (Wd.le w),hpl,hpf,h.pf.2⟩
theorem ClI.step (h : ClI c σ f qual params body scope clos p cur m) (w : Spx c X σ σ') (hX : ∀ x cl,clos.lookup x = some cl -> ¬ X cl) (hp : ¬ X p) : ClI c σ' f qual params body scope clos p cur m :=
  let ⟨vs,⟨k,e⟩,r⟩ := h.pl; h.re w hX ⟨vs,⟨k,Wd.pres w _ _ e h.pf.2 hp⟩,r.mono (Wd.le w)⟩ (Wd.stays w e h.pf.1 hp)
theorem ClI.on (h : ClI c σ f qual params body scope clos p cur m) (w : Sp c σ σ') : ClI c σ' f qual params body scope clos p cur m := h.step w (fun _ _ _ q => q) id
noncomputable def PostI (c : Cx) (σ : St) (f : Addr) (qual : Str) (params : Arguments) (body : List Stmt) (scope : Scope) (clos : List (Str × Addr)) (p : Addr) (cur : List V) (m : Nat) (v : Value) (s' : Shared) : Prop := v = .none /\ ∃ Φ',Spx c (· = p) σ ⟨Φ',s'⟩ /\ ClI c ⟨Φ',s'⟩ f qual params body scope clos p cur m
variable {fn gn : List Str} {tn : Str} {ε : Ev}
noncomputable abbrev ρI (x L R : Int) (a b d e : Option D) (m : Nat) : Loc := [some (.v (.int x)),some (.v (.int L)),some (.v (.int R)),a,b,d,e,some (.v (.int m))]
noncomputable abbrev τI (fn gn : List Str) (tn : Str) : Tb := ⟨nmI,fn,gn,tn⟩
theorem nmI_nodup : nmI.Nodup := by decide
theorem iEnter (ok : InnerOk nmI 3 params scope) (hsc : scope.names = namesI) {A : Around} {vs : List Value} {x L R : Int} {Q : Value -> Shared -> Prop} (hR : Room A 1) (hk : OkS c σ.Φ σ.s) (ht : 0 < σ.s.toks) (H : ClI c σ f qual params body scope clos p cur m) (r : Reps σ.Φ [.int x,.int L,.int R] vs)
    (h : ∀ env σ1,Sp c σ σ1 -> env.cells = clos -> σ.s.heap.get? env.locals = none -> (∀ x cl,clos.lookup x = some cl -> cl ≠ env.locals) -> Ok (fx c (τI fn gn tn) ε 0 KI (A.deeper env) env) (ρI x L R none none none none m) (fun _ => none) σ1 ->
      W c (A.deeper env) (execs body env) (fun fl s' => Q (match fl with | .ret v => v | _ => .none) s') σ1.s) :
    W c A (call (.ref f) vs) Q σ.s :=
  inner_call (τ:=τI fn gn tn) (ε:=ε) (n:=0) (k:=5) ok rfl H.k.fn H.k.C hk ht hR r fun env s1 w e1 e2 e3 a => by
    obtain ⟨cn,u,q4,q5,q6⟩ := H.n.step H.k.C w (fun _ _ _ q => q) fun _ r => r
    rw [hsc] at a
    refine h env ⟨σ.Φ,s1⟩ w e1 e2 e3 ⟨a.K,a.R,?_,a.k,a.t⟩
    exact a.fr.learn nmI_nodup (i:=7) rfl (fun q => by rw [a.K,show (fx c (τI fn gn tn) ε 0 (fun y => List.lookup y namesI) (A.deeper env) env).K "n" = some .free from rfl] at q; cases q) (e1.symm ▸ q4) q5 q6
end
end
section
set_option genInjectivity false
set_option genSizeOfSpec false
section
variable {c : Cx} {τ : Tb} {ε : Ev} {n : Nat} {ib : List Stmt} {I : InI c τ ε n ib} (h : I.terms = termsI) (A : Around) (env : Env)
include h
theorem InI.c1 : AllE (fx c τ ε n KI A env) I.t1 (xEq 1 2) := I.x1.to (congrArg (·.1) h) A env
theorem InI.c2 : AllE (fx c τ ε n KI A env) I.i1 (.var 1) := I.y1.to (congrArg (·.2.1) h) A env
theorem InI.c3 : AllE (fx c τ ε n KI A env) (.Name I.nx I.p0) (.var 0) := I.y2.to (congrArg (·.2.2.1) h) A env
theorem InI.c4 : AllE (fx c τ ε n KI A env) (.BinOp I.l2 I.op2 I.r2 I.q2) (xMid 1 2) := I.x2.to (congrArg (·.2.2.2.1) h) A env
theorem InI.c5 : AllE (fx c τ ε n KI A env) (.BinOp I.l3 I.op3 I.r3 I.q3) (xShift 1 3 7) := I.x3.to (congrArg (·.2.2.2.2.1) h) A env
theorem InI.c6 : AllE (fx c τ ε n KI A env) (.BinOp I.l4 I.op4 I.r4 I.q4) xUp := I.x4.to (congrArg (·.2.2.2.2.2.1) h) A env
theorem InI.c7 : AllE (fx c τ ε n KI A env) (.BinOp I.l5 I.op5 I.r5 I.q5) xLow := I.x5.to (congrArg (·.2.2.2.2.2.2.1) h) A env
theorem InI.c8 : AllXs (fx c τ ε n KI A env) I.a1 xs1I := I.z1.to (congrArg (·.2.2.2.2.2.2.2.1) h) A env
theorem InI.c9 : AllXs (fx c τ ε n KI A env) I.a2 xs2I := I.z2.to (congrArg (·.2.2.2.2.2.2.2.2) h) A env
end
section
variable {c : Cx} {σ : St} {f : Addr} {qual : Str} {params : Arguments} {body : List Stmt} {scope : Scope} {clos : List (Str × Addr)} {p : Addr} {cur : List V} {m : Nat} {fn gn : List Str} {tn : Str} {ε : Ev}
theorem leafI {F : Fx} {ρ : Loc} {O : Ow} {t1 i1 : Expr} {nx : Str} {p0 p1 p2 p3 p4 p5 : Pos} {rest : List Stmt} {x L : Nat} {Q : Flow -> Shared -> Prop} (a : Ok F ρ O σ) (c1 : AllE F t1 (xEq 1 2)) (c2 : AllE F i1 (.var 1)) (c3 : AllE F (.Name nx p0) (.var 0)) (e1 : evT F.ε (xEq 1 2) ρ = some true) (e2 : evE F.ε (.var 1) ρ = some (.v (.int L))) (e3 : evE F.ε (.var 0) ρ = some (.v (.int x)))
    (hK : F.K "a_digits" = some .free) (hc : F.env.cells = clos) (H : ClI F.c σ f qual params body scope clos p cur m) (hL : L < cur.length) (hcl : cur.length ≤ 1000) (h : ∀ σ',Spx F.c (· = p) σ σ' -> ClI F.c σ' f qual params body scope clos p (cur.set L (.int x)) m -> Q (.ret .none) σ'.s) :
    F.W (execs (.If t1 [.Assign [.Subscript (.Name "a_digits" p1) i1 p2] (.Name nx p0) p3,.Return none p4] [] p5 :: rest) F.env) Q σ.s := by
  refine wpAny_execs_cons (GoT.if a c1 e1 fun σ2 w2 a2 => wpAny_execs_cons (wpAny_Assign_Subscript ((c3.e _ _ _ _ a2 e3).then a2 fun v σ3 w3 r3 a3 => ?_) rfl))
  have H3 := (H.on w2).on w3
  obtain ⟨ca,_,hca,hcc,rfl⟩ := H3.a
  refine wpAny_Name (wpAny_loadName_free a3.fr.kind ((a3.K _).trans hK) (hc.symm ▸ hca) hcc ((c2.e _ _ _ _ a3 e2).then a3 fun u σ4 w4 r4 a4 => ?_) (by decide)) (by decide)
  have H4 := H3.on w4
  obtain ⟨tu,rfl⟩ := Rep.int_inv r4
  obtain ⟨us,hpl,hrs⟩ := H4.pl
  have hus := hrs.length
  refine setItem_plain hpl (Int.natCast_nonneg L) (Int.ofNat_lt.mpr (hus ▸ hL)) (by
    have e2 : (2 : Int) ^ 63 = 9223372036854775808 := by decide
    omega) fun h' hpl' hsb => ?_
  have w5 : Spx F.c (fun b => b = p) σ4 ⟨σ4.Φ,{ σ4.s with heap := h' }⟩ := Wd.write a4.k (tk:=σ4.s.toks) (fun b o e hb => hsb.extBut b o hb e) fun b hb => hb ▸ H4.pf
  exact wpAny_execs_cons (wpAny_Return_none (h ⟨σ4.Φ,_⟩ (Wd.trans (Wd.any ((w2.to w3).to w4)) w5 fun b hb => .inl hb) (H4.re w5 (fun y b hb q => H4.apart hb q) ⟨_,hpl',hrs.set ((show Rep σ3.Φ (.int x) v from r3).mono (Wd.le w4)) L⟩ H4.pf.1)))
theorem i_leaf {I : InI c (τI fn gn tn) ε 0 body} (hI : I.terms = termsI) (ok : InnerOk nmI 3 params scope) (hsc : scope.names = namesI) {x L R : Nat}
    (h1 : L + 1 = R) (h2 : R ≤ cur.length) (hcl : cur.length ≤ 1000) (h3 : x < 2 ^ m) {A : Around} {vs : List Value} (hR : Room A 1) (hk : OkS c σ.Φ σ.s) (ht : 0 < σ.s.toks) (H : ClI c σ f qual params body scope clos p cur m) (r : Reps σ.Φ [.int x,.int L,.int R] vs) :
    W c A (call (.ref f) vs) (PostI c σ f qual params body scope clos p (put cur L (dig x m (R - L))) m) σ.s := by
  subst h1
  rw [Nat.add_sub_cancel_left,dig_one h3,put_one h2]
  exact iEnter (fn:=fn) (gn:=gn) (tn:=tn) (ε:=ε) ok hsc hR hk ht H r fun env σ1 w1 hcells hnew hloc a => (congrArg (execs · env) I.h : execs body env = _) ▸
    leafI a (InI.c1 hI _ _) (InI.c2 hI _ _) (InI.c3 hI _ _) ((evEq rfl rfl).trans (congrArg some (decide_eq_true rfl))) rfl rfl rfl hcells (H.on w1) h2 hcl fun σ' w H' => ⟨rfl,σ'.Φ,Wd.trans (Wd.any w1) w fun b hb => .inl hb,H'⟩
end
end
section
set_option exponentiation.threshold 3000
set_option genInjectivity false
set_option genSizeOfSpec false
section
variable {c : Cx} {σ : St} {f : Addr} {qual : Str} {params : Arguments} {body : List Stmt} {scope : Scope} {clos : List (Str × Addr)} {p : Addr} {cur : List V} {m : Nat} {fn gn : List Str} {tn : Str} {ε : Ev}
theorem asgsI {A : Around} {env : Env} {O : Ow} {t1 l2 r2 l3 r3 l4 r4 l5 r5 : Expr} {op2 op3 op4 op5 : Operator} {p5 p6 p7 p8 p9 p10 p11 p12 p13 q2 q3 q4 q5 : Pos} {leaf rest : List Stmt} {x L R M : Nat} {Q : Flow -> Shared -> Prop} (N : Nm (τI fn gn tn))
    (a : Ok (fx c (τI fn gn tn) ε 0 KI A env) (ρI x L R none none none none m) O σ)
    (c1 : AllE (fx c (τI fn gn tn) ε 0 KI A env) t1 (xEq 1 2)) (c4 : AllE (fx c (τI fn gn tn) ε 0 KI A env) (.BinOp l2 op2 r2 q2) (xMid 1 2)) (c5 : AllE (fx c (τI fn gn tn) ε 0 KI A env) (.BinOp l3 op3 r3 q3) (xShift 1 3 7)) (c6 : AllE (fx c (τI fn gn tn) ε 0 KI A env) (.BinOp l4 op4 r4 q4) xUp) (c7 : AllE (fx c (τI fn gn tn) ε 0 KI A env) (.BinOp l5 op5 r5 q5) xLow)
    (hLR : ¬ L + 1 = R) (hmid : ((L : Int) + R).fdiv (2 ^ 1) = M) (hLM : L ≤ M) (hM : M ≤ 1000) (hm : m ≤ 10000) (hxb : bits (x : Int) ≤ 1000000) (noc : ∀ y,(y,NameKind.free) ∉ namesI -> env.cells.lookup y = none)
    (h : ∀ σ',Spx c (· = env.locals) σ σ' -> Ok (fx c (τI fn gn tn) ε 0 KI A env) (ρI x L R (some (.v (.int M))) (some (.v (.int (m * (M - L) : Nat)))) (some (.v (.int (x / 2 ^ (m * (M - L)) : Nat)))) (some (.v (.int (x % 2 ^ (m * (M - L)) : Nat)))) m) O σ' -> W c A (execs rest env) Q σ'.s) :
    W c A (execs (.If t1 leaf [] p5 :: .Assign [.Name "mid" p6] (.BinOp l2 op2 r2 q2) p7 :: .Assign [.Name "shift" p8] (.BinOp l3 op3 r3 q3) p9 :: .Assign [.Name "upper" p10] (.BinOp l4 op4 r4 q4) p11 :: .Assign [.Name "lower" p12] (.BinOp l5 op5 r5 q5) p13 :: rest) env) Q σ.s := by
  have hbd : m * (M - L) ≤ 10000 * 1000 := Nat.mul_le_mul hm (Nat.le_trans (Nat.sub_le _ _) hM)
  have hsh := shift_ok hLM hM hm
  generalize m * (M - L) = S at *
  have hub : bits ((x / 2 ^ S : Nat) : Int) ≤ 1000000 := intBits_le_of_natAbs (y:=(x : Int)) (by
    rw [Int.natAbs_natCast,Int.natAbs_natCast]
    exact Nat.div_le_self _ _) hxb
  have ev1 : evT ε (xEq 1 2) (ρI x L R none none none none m) = some false := (evEq rfl rfl).trans (congrArg some (decide_eq_false (by lia)))
  have ev3 : evE ε (xMid 1 2) (ρI x L R none none none none m) = some (.v (.int M)) := evBin (evBin rfl rfl rfl) rfl (shr (by decide) hmid)
  have ev4 : evE ε (xShift 1 3 7) (ρI x L R (some (.v (.int M))) none none none m) = some (.v (.int S)) := evBin (evBin rfl rfl rfl) rfl hsh
  have ev5 : evE ε xUp (ρI x L R (some (.v (.int M))) (some (.v (.int S))) none none m) = some (.v (.int (x / 2 ^ S : Nat))) :=
    evBin rfl rfl (shr (Int.natCast_nonneg S) (by rw [Int.toNat_natCast,show ((2 : Int) ^ S) = ((2 ^ S : Nat) : Int) by push_cast; rfl,Int.ofNat_fdiv]))
  have ev6 : evE ε xLow (ρI x L R (some (.v (.int M))) (some (.v (.int S))) (some (.v (.int (x / 2 ^ S : Nat)))) none m) = some (.v (.int (x % 2 ^ S : Nat))) :=
    evBin rfl (evBin rfl rfl ((shl ⟨Int.natCast_nonneg S,by lia⟩).trans (by rw [Int.toNat_natCast]))) (congrArg some (bitXor_low x S))
  exact wpAny_execs_cons (GoT.if a c1 ev1 fun σ2 w2 a2 => wpAny_execs_nil (wpAny_execs_cons (asg_local N a2 c4 (fun _ _ _ => rfl) ev3 (i:=3) rfl rfl (noc _ (by decide)) fun σ3 w3 a3 => wpAny_execs_cons (asg_local N a3 c5 (fun _ _ _ => rfl) ev4 (i:=4) rfl rfl (noc _ (by decide)) fun σ4 w4 a4 =>
    wpAny_execs_cons (asg_local N a4 c6 (fun _ _ _ => rfl) ev5 (i:=5) rfl rfl (noc _ (by decide)) fun σ5 w5 a5 => wpAny_execs_cons (asg_local N a5 c7 (fun _ _ _ => rfl) ev6 (i:=6) rfl rfl (noc _ (by decide)) fun σ6 w6 a6 =>
      h σ6 (Wd.trans (Wd.trans (Wd.trans (Wd.trans (Wd.any w2) w3 fun _ q => .inl q) w4 fun _ q => .inl q) w5 fun _ q => .inl q) w6 fun _ q => .inl q) a6))))))
theorem halfI {F : Fx} {ρ : Loc} {O : Ow} {ar : List Expr} {xs : Xs} {p1 p2 p3 : Pos} {rest : List Stmt} {zs : List V} {cur' : List V} {Q : Flow -> Shared -> Prop} (a : Ok F ρ O σ) (hx : AllXs F ar xs) (ev : evXs F.ε xs ρ = some (zs.map D.v)) (hz : fzs (zs.map D.v) = some zs) (hK : F.K "inner" = some .free) (hc : F.env.cells = clos)
    (H : ClI F.c σ f qual params body scope clos p cur m) (hpO : O p = none) (hpM : ¬ Mut F.env p)
    (ih : ∀ σ' us,OkS F.c σ'.Φ σ'.s -> 0 < σ'.s.toks -> ClI F.c σ' f qual params body scope clos p cur m -> Reps σ'.Φ zs us -> F.W (call (.ref f) us) (PostI F.c σ' f qual params body scope clos p cur' m) σ'.s)
    (h : ∀ σ',Spx F.c (· = p) σ σ' -> Ok F ρ O σ' -> ClI F.c σ' f qual params body scope clos p cur' m -> F.W (execs rest F.env) Q σ'.s) :
    F.W (execs (.Expr (.Call (.Name "inner" p1) ar [] p2) p3 :: rest) F.env) Q σ.s :=
  let ⟨ci,hci,hc6⟩ := H.k.cell
  wpAny_execs_cons (wpAny_Expr (call_cell a hx ev hz (hc.symm ▸ hci) (.inr hK) hc6 H.k.fn rfl rfl fun σ7 us w7 r7 a7 =>
    wpAny_mono (withToks a7.t (ih σ7 us a7.k a7.t (H.on w7) r7)) (fun v s8 ⟨⟨e,Φ8,w8,H8⟩,t8⟩ => by
      subst e
      exact h ⟨Φ8,s8⟩ (Wd.trans (Wd.any w7) w8 fun b hb => .inl hb) ⟨a7.K,a7.R,a7.fr.step w8 fun b hb => ⟨hb ▸ hpM,hb ▸ hpO⟩,Wd.ok w8,t8⟩ H8) fun _ _ q => q) (interactive_fn a.fr.kind) rfl)
theorem i_inner (N : Nm (τI fn gn tn)) {I : InI c (τI fn gn tn) ε 0 body} (hI : I.terms = termsI) (ok : InnerOk nmI 3 params scope) (hsc : scope.names = namesI) (hm2 : m ≤ 10000) :
    ∀ (k x L R : Nat) (cur : List V),L < R -> R ≤ cur.length -> cur.length ≤ 1000 -> R - L ≤ 2 ^ k -> x < 2 ^ (m * (R - L)) -> bits (x : Int) ≤ 1000000 -> ∀ (A : Around) (σ : St) (vs : List Value),Room A (k + 1) -> OkS c σ.Φ σ.s -> 0 < σ.s.toks -> ClI c σ f qual params body scope clos p cur m -> Reps σ.Φ [.int x,.int L,.int R] vs ->
      W c A (call (.ref f) vs) (PostI c σ f qual params body scope clos p (put cur L (dig x m (R - L))) m) σ.s := by
  intro k
  induction k with
  | zero =>
    intro x L R cur h1 h2 hcl h3 hx hxb A σ vs hR hk ht H r
    have hLR : L + 1 = R := by simp at h3; lia
    exact i_leaf hI ok hsc hLR h2 hcl (by rwa [show R - L = 1 by lia,Nat.mul_one] at hx) hR hk ht H r
  | succ k ih =>
    intro x L R cur h1 h2 hcl h3 hx hxb A σ vs hR hk ht H r
    by_cases hLR : L + 1 = R
    · exact i_leaf hI ok hsc hLR h2 hcl (by rwa [show R - L = 1 by lia,Nat.mul_one] at hx) (hR.le (by lia)) hk ht H r
    obtain ⟨M,hmid,hM1,hM2,hM3,hM4⟩ := mids h1 hLR h3
    have hMl : M ≤ 1000 := Nat.le_trans (Nat.le_of_lt (Nat.lt_of_lt_of_le hM2 h2)) hcl
    refine iEnter (fn:=fn) (gn:=gn) (tn:=tn) (ε:=ε) ok hsc (hR.le (by lia)) hk ht H r fun env σ1 w1 hcells hnew hloc a => (congrArg (execs · env) I.h : execs body env = _) ▸ ?_
    refine asgsI N a (InI.c1 hI _ _) (InI.c4 hI _ _) (InI.c5 hI _ _) (InI.c6 hI _ _) (InI.c7 hI _ _) hLR hmid (Nat.le_of_lt hM1) hMl hm2 hxb (fun y hy => hcells ▸ H.k.no (hsc ▸ hy)) fun σ6 w6 a6 => ?_
    have w06 : Spx c (fun b => b = env.locals) σ σ6 := Wd.trans (Wd.any w1) w6 fun b hb => .inl hb
    have hpl : p ≠ env.locals := fun q => by
      obtain ⟨vs,⟨k,e⟩,_⟩ := H.pl
      rw [q,hnew] at e; cases e
    have hpM : ¬ Mut env p := fun q => q.elim hpl fun ⟨y,q⟩ => H.apart (hcells ▸ q) rfl
    refine halfI (zs:=[.int (x % 2 ^ (m * (M - L)) : Nat),.int L,.int M]) a6 (InI.c8 hI _ _) rfl rfl rfl hcells (H.step w06 (fun y b hb q => hloc y b hb q) hpl) rfl hpM
      (fun σ' us k' t' H' r' => ih (x % 2 ^ (m * (M - L))) L M cur hM1 (by lia) hcl hM4 (Nat.mod_lt _ (Nat.two_pow_pos _)) (Nat.le_trans (bits_mod x _) hxb) _ σ' us (hR.deeper env) k' t' H' r') fun σ8 w8 a8 H8 => ?_
    have hl1 : (put cur L (dig (x % 2 ^ (m * (M - L))) m (M - L))).length = cur.length := put_length (by rw [dig_length]; lia)
    have hxd : x / 2 ^ (m * (M - L)) < 2 ^ (m * (R - M)) := Nat.div_lt_of_lt_mul (by
      rw [<- Nat.pow_add,<- Nat.mul_add,show M - L + (R - M) = R - L by lia]; exact hx)
    refine halfI (zs:=[.int (x / 2 ^ (m * (M - L)) : Nat),.int M,.int R]) a8 (InI.c9 hI _ _) rfl rfl rfl hcells H8 rfl hpM
      (fun σ' us k' t' H' r' => ih (x / 2 ^ (m * (M - L))) M R _ hM2 (hl1.symm ▸ h2) (hl1.symm ▸ hcl) hM3 hxd (Nat.le_trans (bits_div x _) hxb) _ σ' us (hR.deeper env) k' t' H' r') fun σ10 w10 a10 H10 => wpAny_execs_nil ⟨rfl,σ10.Φ,?_,?_⟩
    · exact Wd.weak (X:=fun b => b = p ∨ b = env.locals) (Wd.trans (Wd.trans (Wd.weak w06 fun b hb => .inl (.inr hb)) w8 fun b hb => .inl (.inl hb)) w10 fun b hb => .inl (.inl hb)) fun b hb => hb.elim .inl fun hb => .inr (hb ▸ hnew)
    · have e : put cur L (dig x m (R - L)) = put (put cur L (dig (x % 2 ^ (m * (M - L))) m (M - L))) M (dig (x / 2 ^ (m * (M - L))) m (R - M)) := by
        have e1 : M = L + (dig (x % 2 ^ (m * (M - L))) m (M - L)).length := by rw [dig_length]; lia
        conv => rhs; arg 2; rw [e1]
        rw [put_put (by rw [dig_length,dig_length]; lia),show R - L = (M - L) + (R - M) by lia,dig_split]
      rw [e]
      exact H10
end
end
section
set_option genInjectivity false
set_option genSizeOfSpec false
noncomputable abbrev namesIo : List (Str × NameKind) := [("a",.local),("n",.cell),("a_digits",.cell),("inner",.cell),("len",.globalImplicit)]
noncomputable abbrev KIo : Kd := fun x => namesIo.lookup x
noncomputable abbrev nmIo : List Str := ["a","n","a_digits"]
noncomputable abbrev xsIo : Xs := .cons (.var 0) (.cons (.lit (.int 0)) (.cons (.bi .len (.cons (.var 2) .nil)) .nil))
noncomputable abbrev xNum : X := .bin .Sub (.bin .Add (.meth .bitLength (.var 0) .nil) (.var 1)) (.lit (.int 1))
noncomputable abbrev sIo : S := .own 2 (.bin .Mult (.lst (.cons (.lit (.int 0)) .nil)) (.bin .FloorDiv xNum (.var 1)))
section
variable (c : Cx) (τ τ' : Tb) (ε ε' : Ev) (n : Nat) (t : Tab)
structure HdI (params : Arguments) (scope : Scope) (body : List Stmt) : Type where
  (s0 : Stmt) (ip : Arguments) (ib : List Stmt) (isc : Scope) (pos : Pos) (te : Expr) (ars : List Expr) (p1 p2 p3 p4 p5 p6 : Pos)
  h : body = [s0,.FunctionDef "inner" ip ib [] none [] isc none "inner" pos,.If te [.Expr (.Call (.Name "inner" p1) ars [] p2) p3] [] p4,.Return (some (.Name "a_digits" p6)) p5]
  ok : FnOk τ 2 params scope /\ scope.names = namesIo /\ NestOk t ip pos /\ InnerOk nmI 3 ip isc /\ isc.names = namesI
  I : InI c τ' ε' 0 ib
  x0 : SndS c τ ε n KIo s0
  xt : Snd c τ ε n KIo te
  xs : Snds c τ ε n KIo ars
variable {c τ τ' ε ε' n t}
theorem SndS.to {K : Kd} {e : Stmt} {x : S} (a : SndS c τ ε n K e) (h : a.1 = x) (A : Around) (env : Env) : SS (fx c τ ε n K A env) e x := h ▸ a.2 A env
noncomputable def HdI.terms {params : Arguments} {scope : Scope} {body : List Stmt} (I : HdI c τ τ' ε ε' n t params scope body) : T9 × S × X × Xs := (I.I.terms,I.x0.1,I.xt.1,I.xs.xs)
noncomputable abbrev htermsI : T9 × S × X × Xs := (termsI,sIo,.var 0,xsIo)
noncomputable def handI (G : Gd c τ ε n) (G' : Gd c τ' ε' 0) (t : Tab) (params : Arguments) (scope : Scope) : ∀ body : List Stmt,Option (HdI c τ τ' ε ε' n t params scope body)
  | [s0,.FunctionDef x ip ib [] none [] isc none y pos,.If te [.Expr (.Call (.Name z p1) ars [] p2) p3] [] p4,.Return (some (.Name u p6)) p5] => if h : (x = "inner" /\ y = "inner" /\ z = "inner" /\ u = "a_digits") /\ FnOk τ 2 params scope /\ scope.names = namesIo /\ NestOk t ip pos /\ InnerOk nmI 3 ip isc /\ isc.names = namesI then
      (innerI G' ib).bind fun I => (toS G KIo sIo s0).bind fun x0 => (toX G 100 KIo te).bind fun xt => (listX (toX G 100 KIo) ars).bind fun xs => some ⟨s0,ip,ib,isc,pos,te,ars,p1,p2,p3,p4,p5,p6,by rw [h.1.1,h.1.2.1,h.1.2.2.1,h.1.2.2.2],h.2,I,x0,xt,xs⟩ else none
  | _ => none
end
noncomputable abbrev FitI (c : Cx) (p : Program) (fs : List (Str × FnX)) (t : Tab) : Prop :=
  ∀ ε n ε' (G : Gd c (Dt fs nmIo) ε n) (G' : Gd c (Dt fs nmI) ε' 0),(defAt p "_int2digits").map (fun d => (handI G G' t d.params d.scope d.body).map (·.terms)) = some (some htermsI)
theorem i2d_args {args : List V} {v : V} (h : hand_int2digits args = some v) : ∃ (a m k : Nat),args = [.int a,.int m] /\ 0 < m /\ m ≤ 10000 /\ bits (a : Int) ≤ 1000000 /\ k ≤ 1000 /\ (bits (a : Int) + m - 1) / m = k /\ v = .list (dig a m k) := by
  unfold hand_int2digits at h
  split at h
  case h_2 => cases h
  rename_i a0 m0
  refine iteE h fun hc h => ?_
  cases h
  have e1 := Int.toNat_of_nonneg hc.1
  exact ⟨a0.toNat,m0.toNat,_,by rw [e1,Int.toNat_of_nonneg (by omega)],by omega,by omega,e1.symm ▸ hc.2.2.2.1,hc.2.2.2.2,by rw [e1],rfl⟩
theorem flat_rep (k : Nat) (v : V) : (List.replicate k [v]).flatten = List.replicate k v := by
  induction k with
  | zero => rfl
  | succ k ih => rw [List.replicate_succ,List.flatten_cons,ih,List.replicate_succ]; rfl
theorem ev_own {ε : Ev} {a m k : Nat} (hm : 0 < m) (hm2 : m ≤ 10000) (hk1 : k ≤ 1000) (hk : (bits (a : Int) + m - 1) / m = k) : evS ε sIo (startL [.int a,.int m] 1) = some (.next,[some (.v (.int a)),some (.v (.int m)),some (.o 2 (List.replicate k (.int 0)))]) := by
  have q1 : ((bits (a : Int) : Int) + m - 1).fdiv m = k := by
    rw [show ((bits (a : Int) : Int) + m - 1) = ((bits (a : Int) + m - 1 : Nat) : Int) by omega,<- Int.ofNat_fdiv,hk]
  have h14 : bits (m : Int) ≤ 14 := intBits_le_iff.mpr (by rw [Int.natAbs_natCast]; exact Nat.lt_of_le_of_lt hm2 (by decide))
  have q6 : binInt .FloorDiv ((bits (a : Int) : Int) + m - 1) m = some (k : Int) := (if_pos ⟨by omega,by omega⟩).trans (congrArg some q1)
  have q8 : 0 ≤ (k : Int) /\ (k : Int) ≤ (lim : Nat) /\ [V.int 0].length * (k : Int).toNat ≤ lim := ⟨Int.natCast_nonneg k,by simp only [lim]; omega,by rw [Int.toNat_natCast,List.length_singleton,Nat.one_mul]; exact Nat.le_trans hk1 (by decide)⟩
  have e2 : evE ε xNum (startL [.int a,.int m] 1) = some (.v (.int ((bits (a : Int) : Int) + m - 1))) := evBin (evBin rfl rfl rfl) rfl rfl
  have e3 : evE ε (.bin .FloorDiv xNum (.var 1)) (startL [.int a,.int m] 1) = some (.v (.int k)) := evBin e2 rfl q6
  have e1 : evE ε (.lst (.cons (.lit (.int 0)) .nil)) (startL [.int a,.int m] 1) = some (.t [.int 0]) := (if_pos (by decide) : (if [V.int 0].length ≤ lim then some (D.t [V.int 0]) else none) = _)
  have e4 : evE ε (.bin .Mult (.lst (.cons (.lit (.int 0)) .nil)) (.bin .FloorDiv xNum (.var 1))) (startL [.int a,.int m] 1) = some (.t (List.replicate k (.int 0))) :=
    (bind2 e1 e3).trans ((if_pos q8).trans (by rw [Int.toNat_natCast,flat_rep]))
  show (evE ε _ _).bind _ = _
  rw [e4]
  rfl
theorem k_zero {m k : Nat} (hm : 0 < m) (hk : (bits ((0 : Nat) : Int) + m - 1) / m = k) : k = 0 := by
  have : bits ((0 : Nat) : Int) = 0 := by decide
  rw [this] at hk
  exact hk.symm.trans (Nat.div_eq_of_lt (by omega))
theorem k_pos {a m k : Nat} (ha : a ≠ 0) (hm : 0 < m) (hk : (bits (a : Int) + m - 1) / m = k) : 0 < k /\ a < 2 ^ (m * k) := by
  have hkm : bits (a : Int) ≤ m * k := by
    rw [<- hk]
    have := Nat.div_add_mod (bits (a : Int) + m - 1) m
    have h9 := Nat.mod_lt (bits (a : Int) + m - 1) hm
    omega
  have hax : a < 2 ^ (m * k) := intBits_le_iff.mp hkm
  refine ⟨Nat.pos_of_ne_zero fun q => ?_,hax⟩
  rw [q] at hax
  exact ha (Nat.lt_one_iff.mp hax)
theorem put_all {a m k : Nat} : put (List.replicate k (.int 0)) 0 (dig a m (k - 0)) = dig a m k := by
  unfold put
  rw [List.take_zero,Nat.zero_add,dig_length,Nat.sub_zero,List.nil_append,List.drop_of_length_le (Nat.le_of_eq List.length_replicate),List.append_nil]
end
section
set_option genInjectivity false
set_option genSizeOfSpec false
theorem hand_i2d {c : Cx} {ts : List Tab} {t : Tab} (g : IsG c ts t) {p : Program} {fs : List (Str × FnX)} (fit : FitI c p fs t) (hq : ("_int2digits" : Str) ++ (".<locals>." : Str) ++ ("inner" : Str) = t.qual)
    (hcode : ∀ a params body scope o pm cd doc,c.mg "_int2digits" = some (.ref a) -> c.b0.get? a = some o -> o.data = .func (Calls.docDef "_int2digits" params body scope pm cd doc) -> cd = .ref t.c) :
    HandOk c p fs "_int2digits" 30 hand_int2digits := by
  intro d hd fa0 fa n hn hG args v hv A Φ s vs hR hk ht r
  have G1 := hG nmIo (let ⟨a,b⟩ := (by decide : nmIo.Nodup /\ (".0" : Str) ∉ nmIo); ⟨a,b⟩)
  have G0 := G1.bare nmI (let ⟨a,b⟩ := (by decide : nmI.Nodup /\ (".0" : Str) ∉ nmI); ⟨a,b⟩)
  have f := fit _ _ _ G1 G0
  rw [hd] at f
  refine mapE (Option.some.inj f) fun H _ e => ?_
  obtain ⟨ok,hsc,hN,hI,hisc⟩ := H.ok
  obtain ⟨a,m,k,rfl,hm1,hm2,hab,hk1,hk2,rfl⟩ := i2d_args hv
  refine hand_enter (ε:=⟨run fs glob0 flagTab0 n,glob0,flagTab0⟩) (k:=1) fa ok rfl hR hk ht r (fun o pm cd doc q1 q2 => by
    obtain ⟨o',pm',cd',doc',r1,r2,r3,r4⟩ := fa.fn
    exact hcode fa0 _ _ _ o pm cd doc r1 q1 q2) fun env s1 henvc henvq w1 hMut a1 => ?_
  rw [hsc] at a1
  refine (congrArg (execs · env) H.h : execs d.body env = _) ▸ ?_
  have hf : FreeOk KIo H.isc := fun p hp => by
    rw [hisc] at hp
    exact (show ∀ p ∈ namesI,p.2 = .free -> KIo p.1 = some .cell ∨ KIo p.1 = some .free by decide) p hp
  have m1 : ∀ {x : Str},(x,NameKind.free) ∈ namesI -> (x,NameKind.free) ∈ H.isc.names := fun h => hisc ▸ h
  refine SSs.then (a:=[H.s0]) (stm_cons (H.x0.to (congrArg (·.2.1) e) _ _) stm_nil) a1 (ev:=(bind2 (ev_own hm1 hm2 hk1 hk2) rfl : evSs _ (.cons sIo .nil) _ = _)) fun O2 σ2 st2 a2 => ?_
  have w02 : Spx c (Mut env) ⟨Φ,s⟩ σ2 := Wd.trans (Wd.any w1) st2.w fun b hb => hb.elim (fun q => q.elim) fun hb => .inl (hb.elim id fun ⟨i,hb⟩ => noneE hb)
  refine wpAny_execs_cons (nest_then g a2 hN henvc (henvq ▸ hq) rfl (by show ("inner" : Str) ∉ nmIo; decide) hf fun σ4 f w4 a4 CF hc => ?_)
  have w04 : Spx c (Mut env) ⟨Φ,s⟩ σ4 := Wd.trans w02 w4 fun b hb => .inl (.inr ⟨_,hb⟩)
  obtain ⟨ca,va,hca,hcc,pl,us,rfl,hpl,hrs,hO,hpT⟩ := a4.cap (isc:=H.isc) (i:=2) (x:="a_digits") (d:=.o 2 (List.replicate k (.int 0))) (P:=fun _ v => Rp c O2 σ4 σ4 (.o 2 (List.replicate k (.int 0))) v) rfl (.inl rfl) rfl (m1 (by decide)) fun v r => r
  have hpn := (a4.fr.own pl 2 hO).2.1
  have hpnew : s.heap.get? pl = none := (st2.ow pl 2 hO).elim (fun q => noneE q) fun q => q.elim (fun q => none_up (Wd.up w1 pl) q) fun q => q.elim
  have K4 : ClI c σ4 f t.qual H.ip H.ib H.isc (cloOf env.cells H.isc.names []) pl (List.replicate k (.int 0)) m := {
    k := ⟨CF,a4.cells hf,let ⟨ci,e⟩ := a4.fr.has "inner" (.inl (a4.K "inner")); ⟨ci,_,clo_at (m1 (by decide)) e,hc ci e,rfl⟩⟩
    a := ⟨ca,_,hca,hcc,rfl⟩
    n := a4.cap (i:=1) rfl (.inl rfl) rfl (m1 (by decide)) fun v r => r
    pl := ⟨us,hpl,hrs⟩
    pf := ⟨hpn,hpT⟩ }
  have fin : ∀ (σ' : St) cur,Spx c (· = pl) σ4 σ' -> ClI c σ' f t.qual H.ip H.ib H.isc (cloOf env.cells H.isc.names []) pl cur m ->
      W c (A.deeper env) (execs [.Return (some (.Name "a_digits" H.p6)) H.p5] env) (fun fl s' => PostV c Φ s (.list cur) (match fl with | .ret v => v | _ => .none) s') σ'.s := by
    intro σ' cur w' H'
    obtain ⟨ca',_,hca',hcc',rfl⟩ := H'.a
    refine wpAny_execs_cons (wpAny_Return_some (wpAny_Name (wpAny_loadName_cell a1.fr.kind (a1.K "a_digits") (clo_back hca') hcc' ?_) (by decide)))
    obtain ⟨us',⟨q,e⟩,rs'⟩ := H'.pl
    have u : Sp c ⟨Φ,s⟩ σ' := Wd.weak (X:=fun b => Mut env b ∨ b = pl) (Wd.trans (Wd.weak w04 fun b hb => .inl (.inl hb)) w' fun b hb => .inl (.inr hb)) fun b hb => .inr (hb.elim (hMut b) fun hb => hb ▸ hpnew)
    exact ⟨_,Wd.freeze u e H'.pf.1 H'.pf.2 (.inr hpnew),.list Fz.add_self (rs'.mono (Fz.le_add H'.pf.1))⟩
  have a4' : Ok (fx c (Dt fs nmIo) ⟨run fs glob0 flagTab0 n,glob0,flagTab0⟩ n KIo (A.deeper env) env) [some (.v (.int a)),some (.v (.int m)),some (.o 2 (List.replicate k (.int 0)))] O2 σ4 := a4
  refine wpAny_execs_cons (GoT.if a4' (H.xt.to (congrArg (·.2.2.1) e) _ _) (b:=(a : Int) != 0) rfl fun σ5 w5 a5 => ?_)
  have K5 := K4.on w5
  by_cases ha0 : a = 0
  · subst ha0
    cases k_zero hm1 hk2
    exact wpAny_execs_nil (fin σ5 [] (Wd.any w5) K5)
  · obtain ⟨hk0,hax⟩ := k_pos ha0 hm1 hk2
    rw [show ((a : Int) != 0) = true by simpa using ha0]
    obtain ⟨ci,hci,hc5⟩ := K5.k.cell
    have ev3 : evXs ⟨run fs glob0 flagTab0 n,glob0,flagTab0⟩ xsIo [some (.v (.int a)),some (.v (.int m)),some (.o 2 (List.replicate k (.int 0)))] = some ([V.int a,.int 0,.int k].map D.v) := by
      have z : lenD [.o 2 (List.replicate k (.int 0))] = some (.v (.int k)) := (if_pos (by rw [List.length_replicate]; exact Nat.le_trans hk1 (by decide))).trans (by rw [List.length_replicate])
      exact bind2 rfl (bind2 (f:=fun d ds => some (d :: ds)) rfl (bind2 (f:=fun d ds => some (d :: ds)) z rfl))
    refine wpAny_execs_cons (wpAny_Expr (call_cell (zs:=[.int a,.int 0,.int k]) a5 (H.xs.to (congrArg (·.2.2.2) e) _ _) ev3 rfl (clo_back hci) (.inl rfl) hc5 K5.k.fn rfl rfl fun σ6 us6 w6 r6 a6 => ?_) (interactive_fn a1.fr.kind) rfl)
    refine wpAny_mono (i_inner G0.nm (I:=H.I) (congrArg (·.1) e) hI hisc hm2 10 a 0 k _ hk0 (Nat.le_of_eq List.length_replicate.symm) (Nat.le_trans (Nat.le_of_eq List.length_replicate) hk1) (Nat.le_trans (Nat.sub_le _ _) (Nat.le_trans hk1 (by decide))) hax hab _ σ6 us6 (a4.R.le (Nat.le_trans (by decide : 11 ≤ 30) hn)) a6.k a6.t (K5.on w6) r6) (fun v s7 ⟨ev,Φ7,w7,H7⟩ => ?_) fun _ _ q => q
    subst ev
    rw [put_all] at H7
    exact wpAny_execs_nil (fin ⟨Φ7,s7⟩ _ (Wd.trans (Wd.any (w5.to w6)) w7 fun b hb => .inl hb) H7)
section
variable {prog : Program} {w : World} {s₁ : Shared} {ts : List Tab} {mg mb : Str -> Option Value} {hT : TabsAt (tabsOf ts) s₁.heap} {g : s₁.heap.Ns mainGlobals mg} {bb : s₁.heap.Ns builtinsNs mb} {nl : s₁.heap.NoLimit}
theorem code_of {K : Frag} {x : Str} {c P : Addr} (X : K.In s₁.heap) (ht : tabIn K x = some (c,P)) :
    ∀ (a : Addr) (params : Arguments) (body : List Stmt) (scope : Scope) (o : Obj) (pm cd doc : Value),(mkCx prog w s₁ ts mg mb hT g bb nl).mg x = some (.ref a) -> (mkCx prog w s₁ ts mg mb hT g bb nl).b0.get? a = some o -> o.data = .func (Calls.docDef x params body scope pm cd doc) -> cd = .ref c :=
  fun a params body scope o pm cd doc h1 h2 h3 => law_code X g ht h1 (of_hideAll _ h2) h3
theorem codeAll_get {h : Heap} : ∀ {tabs : List (Addr × Addr)},CodeAll tabs h -> ∀ q ∈ tabs,CodeHd h q.1 q.2
  | _ :: _,k,q,hq => (List.mem_cons.mp hq).elim (fun e => e ▸ k.1) fun hq => codeAll_get k.2 q hq
theorem isG_of {p : Program} {loose : List Str} {mean : ExcName -> Option Value} (T : Top p loose mean mg mb s₁.heap) {t : Tab} (ht : t ∈ ts) (huni : ∀ v ∈ ts,∀ v' ∈ ts,v'.P = v.P -> v' = v) : IsG (mkCx prog w s₁ ts mg mb hT g bb nl) ts t :=
  ⟨rfl,rfl,ht,huni t ht,codeAll_get (ghost_code hT) (t.c,t.P) (List.mem_map.mpr ⟨t,ht,rfl⟩),(ghost_top hT T).bmain⟩
theorem hands_of {p : Program} {loose : List Str} {mean : ExcName -> Option Value} {fs : List (Str × FnX)} {t u : Tab} {K : Frag} (T : Top p loose mean mg mb s₁.heap) (X : K.In s₁.heap) (hI : FitI (mkCx prog w s₁ ts mg mb hT g bb nl) p fs t) (hD : FitD (mkCx prog w s₁ ts mg mb hT g bb nl) p fs u)
    (ht : t ∈ ts) (hu : u ∈ ts) (huni : ∀ v ∈ ts,∀ v' ∈ ts,v'.P = v.P -> v' = v) (qt : ("_int2digits" : Str) ++ (".<locals>." : Str) ++ ("inner" : Str) = t.qual) (qu : ("_digits2int" : Str) ++ (".<locals>." : Str) ++ ("inner" : Str) = u.qual)
    (kt : tabIn K "_int2digits" = some (t.c,t.P)) (ku : tabIn K "_digits2int" = some (u.c,u.P)) :
    HandOk (mkCx prog w s₁ ts mg mb hT g bb nl) p fs "_int2digits" 30 hand_int2digits /\ HandOk (mkCx prog w s₁ ts mg mb hT g bb nl) p fs "_digits2int" 30 hand_digits2int :=
  ⟨hand_i2d (isG_of T ht huni) hI qt (code_of X kt),hand_d2i (isG_of T hu huni) hD qu (code_of X ku)⟩
end
end
noncomputable def nm_pretty_flags : List Str := ("flags" : Str) :: ("names" : Str) :: ("i" : Str) :: ("flag" : Str) :: []
noncomputable def s1_pretty_flags : S := (.asg (.n 3) (.bin .LShift (.lit (.int 1)) (.var 2)))
noncomputable def s2_pretty_flags : S := (.app 1 (.flag (.var 3) (.bi .hex (.cons (.var 3) .nil))))
noncomputable def s3_pretty_flags : S := (.aug 0 .BitXor (.var 3))
noncomputable def s4_pretty_flags : S := (.ife (.not (.var 0)) (.cons .brk .nil) .nil)
noncomputable def s5_pretty_flags : S := (.ife (.bin .BitAnd (.var 0) (.var 3)) (.cons s2_pretty_flags (.cons s3_pretty_flags (.cons s4_pretty_flags .nil))) .nil)
noncomputable def s6_pretty_flags : S := (.app 1 (.bi .hex (.cons (.var 0) .nil)))
noncomputable def s7_pretty_flags : S := (.forr (.n 2) (.bi .range (.cons (.lit (.int 32)) .nil)) (.cons s1_pretty_flags (.cons s5_pretty_flags .nil)) (.cons s6_pretty_flags .nil))
noncomputable def s8_pretty_flags : S := (.ret (.meth .join (.lit (.str (", " : Str))) (.cons (.var 1) .nil)))
noncomputable def tm_pretty_flags : Ss := (.cons (.own 1 (.lst .nil)) (.cons s7_pretty_flags (.cons s8_pretty_flags .nil)))
noncomputable def nm_div2n1n : List Str := ("a" : Str) :: ("b" : Str) :: ("n" : Str) :: ("pad" : Str) :: ("half_n" : Str) :: ("mask" : Str) :: ("b1" : Str) :: ("b2" : Str) :: ("q1" : Str) :: ("r" : Str) :: ("q2" : Str) :: []
noncomputable def s1_div2n1n : S := (.ret (.bi .divmod (.cons (.var 0) (.cons (.var 1) .nil))))
noncomputable def s2_div2n1n : S := (.ife (.cmp .LtE (.bin .Sub (.meth .bitLength (.var 0) .nil) (.var 2)) (.gl 0)) (.cons s1_div2n1n .nil) .nil)
noncomputable def s3_div2n1n : S := (.asg (.n 3) (.bin .BitAnd (.var 2) (.lit (.int 1))))
noncomputable def s4_div2n1n : S := (.aug 0 .LShift (.lit (.int 1)))
noncomputable def s5_div2n1n : S := (.aug 1 .LShift (.lit (.int 1)))
noncomputable def s6_div2n1n : S := (.aug 2 .Add (.lit (.int 1)))
noncomputable def s7_div2n1n : S := (.ife (.var 3) (.cons s4_div2n1n (.cons s5_div2n1n (.cons s6_div2n1n .nil))) .nil)
noncomputable def s8_div2n1n : S := (.asg (.n 4) (.bin .RShift (.var 2) (.lit (.int 1))))
noncomputable def s9_div2n1n : S := (.asg (.n 5) (.bin .Sub (.bin .LShift (.lit (.int 1)) (.var 4)) (.lit (.int 1))))
noncomputable def s10_div2n1n : S := (.asg (.t [6,7]) (.tup (.cons (.bin .RShift (.var 1) (.var 4)) (.cons (.bin .BitAnd (.var 1) (.var 5)) .nil))))
noncomputable def s11_div2n1n : S := (.asg (.t [8,9]) (.call 2 (.cons (.bin .RShift (.var 0) (.var 2)) (.cons (.bin .BitAnd (.bin .RShift (.var 0) (.var 4)) (.var 5)) (.cons (.var 1) (.cons (.var 6) (.cons (.var 7) (.cons (.var 4) .nil))))))))
noncomputable def s12_div2n1n : S := (.asg (.t [10,9]) (.call 2 (.cons (.var 9) (.cons (.bin .BitAnd (.var 0) (.var 5)) (.cons (.var 1) (.cons (.var 6) (.cons (.var 7) (.cons (.var 4) .nil))))))))
noncomputable def s13_div2n1n : S := (.aug 9 .RShift (.lit (.int 1)))
noncomputable def s14_div2n1n : S := (.ife (.var 3) (.cons s13_div2n1n .nil) .nil)
noncomputable def s15_div2n1n : S := (.ret (.tup (.cons (.bin .BitOr (.bin .LShift (.var 8) (.var 4)) (.var 10)) (.cons (.var 9) .nil))))
noncomputable def tm_div2n1n : Ss := (.cons s2_div2n1n (.cons s3_div2n1n (.cons s7_div2n1n (.cons s8_div2n1n (.cons s9_div2n1n (.cons s10_div2n1n (.cons s11_div2n1n (.cons s12_div2n1n (.cons s14_div2n1n (.cons s15_div2n1n .nil))))))))))
noncomputable def nm_div3n2n : List Str := ("a12" : Str) :: ("a3" : Str) :: ("b" : Str) :: ("b1" : Str) :: ("b2" : Str) :: ("n" : Str) :: ("r" : Str) :: ("q" : Str) :: []
noncomputable def s1_div3n2n : S := (.asg (.t [7,6]) (.tup (.cons (.bin .Sub (.bin .LShift (.lit (.int 1)) (.var 5)) (.lit (.int 1))) (.cons (.bin .Add (.bin .Sub (.var 0) (.bin .LShift (.var 3) (.var 5))) (.var 3)) .nil))))
noncomputable def s2_div3n2n : S := (.asg (.t [7,6]) (.call 1 (.cons (.var 0) (.cons (.var 3) (.cons (.var 5) .nil)))))
noncomputable def s3_div3n2n : S := (.ife (.cmp .Eq (.bin .RShift (.var 0) (.var 5)) (.var 3)) (.cons s1_div3n2n .nil) (.cons s2_div3n2n .nil))
noncomputable def s4_div3n2n : S := (.asg (.n 6) (.bin .Sub (.bin .BitOr (.bin .LShift (.var 6) (.var 5)) (.var 1)) (.bin .Mult (.var 7) (.var 4))))
noncomputable def s5_div3n2n : S := (.aug 7 .Sub (.lit (.int 1)))
noncomputable def s6_div3n2n : S := (.whl 10000 (.cmp .Lt (.var 6) (.lit (.int 0))) (.cons s5_div3n2n (.cons (.aug 6 .Add (.var 2)) .nil)))
noncomputable def s7_div3n2n : S := (.ret (.tup (.cons (.var 7) (.cons (.var 6) .nil))))
noncomputable def tm_div3n2n : Ss := (.cons s3_div3n2n (.cons s4_div3n2n (.cons s6_div3n2n (.cons s7_div3n2n .nil))))
noncomputable def nm_divmod_pos : List Str := ("a" : Str) :: ("b" : Str) :: ("n" : Str) :: ("a_digits" : Str) :: ("r" : Str) :: ("q_digits" : Str) :: ("a_digit" : Str) :: ("q" : Str) :: ("q_digit" : Str) :: []
noncomputable def s1_divmod_pos : S := (.asg (.n 2) (.meth .bitLength (.var 1) .nil))
noncomputable def s2_divmod_pos : S := (.asg (.n 3) (.call 3 (.cons (.var 0) (.cons (.var 2) .nil))))
noncomputable def s3_divmod_pos : S := (.asg (.n 4) (.lit (.int 0)))
noncomputable def s4_divmod_pos : S := (.asg (.t [8,4]) (.call 1 (.cons (.bin .Add (.bin .LShift (.var 4) (.var 2)) (.var 6)) (.cons (.var 1) (.cons (.var 2) .nil)))))
noncomputable def s5_divmod_pos : S := (.forr (.n 6) (.bi .reversed (.cons (.var 3) .nil)) (.cons s4_divmod_pos (.cons (.app 5 (.var 8)) .nil)) .nil)
noncomputable def s6_divmod_pos : S := (.asg (.n 7) (.call 4 (.cons (.var 5) (.cons (.var 2) .nil))))
noncomputable def s7_divmod_pos : S := (.ret (.tup (.cons (.var 7) (.cons (.var 4) .nil))))
noncomputable def tm_divmod_pos : Ss := (.cons s1_divmod_pos (.cons s2_divmod_pos (.cons s3_divmod_pos (.cons (.own 5 (.lst .nil)) (.cons s5_divmod_pos (.cons (.rvs 5) (.cons (.fz 5) (.cons s6_divmod_pos (.cons s7_divmod_pos .nil)))))))))
noncomputable def nm_int_divmod : List Str := ("a" : Str) :: ("b" : Str) :: ("q" : Str) :: ("r" : Str) :: []
noncomputable def s1_int_divmod : S := (.asg (.t [2,3]) (.call 6 (.cons (.neg (.var 0)) (.cons (.neg (.var 1)) .nil))))
noncomputable def s2_int_divmod : S := (.ret (.tup (.cons (.var 2) (.cons (.neg (.var 3)) .nil))))
noncomputable def s3_int_divmod : S := (.asg (.t [2,3]) (.call 6 (.cons (.inv (.var 0)) (.cons (.var 1) .nil))))
noncomputable def s4_int_divmod : S := (.ret (.tup (.cons (.inv (.var 2)) (.cons (.bin .Add (.var 1) (.inv (.var 3))) .nil))))
noncomputable def s5_int_divmod : S := (.ret (.call 5 (.cons (.var 0) (.cons (.var 1) .nil))))
noncomputable def s6_int_divmod : S := (.ife (.cmp .Lt (.var 0) (.lit (.int 0))) (.cons s3_int_divmod (.cons s4_int_divmod .nil)) (.cons s5_int_divmod .nil))
noncomputable def s7_int_divmod : S := (.ife (.cmp .Lt (.var 1) (.lit (.int 0))) (.cons s1_int_divmod (.cons s2_int_divmod .nil)) (.cons s6_int_divmod .nil))
noncomputable def s8_int_divmod : S := (.ife (.cmp .Eq (.var 1) (.lit (.int 0))) (.cons .stop .nil) (.cons s7_int_divmod .nil))
noncomputable def tm_int_divmod : Ss := (.cons s8_int_divmod .nil)
noncomputable def nm_ellipsis_match : List Str := ("want" : Str) :: ("got" : Str) :: ("ws" : Str) :: ("w" : Str) :: ("startpos" : Str) :: ("endpos" : Str) :: []
noncomputable def s1_ellipsis_match : S := (.ret (.cmp .Eq (.var 0) (.var 1)))
noncomputable def s2_ellipsis_match : S := (.ife (.cmp .NotIn (.gl 1) (.var 0)) (.cons s1_ellipsis_match .nil) .nil)
noncomputable def s3_ellipsis_match : S := (.own 2 (.meth .split (.var 0) (.cons (.gl 1) .nil)))
noncomputable def s4_ellipsis_match : S := (.ast (.cmp .GtE (.bi .len (.cons (.var 2) .nil)) (.lit (.int 2))))
noncomputable def s5_ellipsis_match : S := (.asg (.t [4,5]) (.tup (.cons (.lit (.int 0)) (.cons (.bi .len (.cons (.var 1) .nil)) .nil))))
noncomputable def s6_ellipsis_match : S := (.asg (.n 3) (.sub (.var 2) (.lit (.int 0))))
noncomputable def s7_ellipsis_match : S := (.asg (.n 4) (.bi .len (.cons (.var 3) .nil)))
noncomputable def s8_ellipsis_match : S := (.ret (.lit (.bool false)))
noncomputable def s9_ellipsis_match : S := (.ife (.meth .startswith (.var 1) (.cons (.var 3) .nil)) (.cons s7_ellipsis_match (.cons (.del 2 (.lit (.int 0))) .nil)) (.cons s8_ellipsis_match .nil))
noncomputable def s10_ellipsis_match : S := (.ife (.var 3) (.cons s9_ellipsis_match .nil) .nil)
noncomputable def s11_ellipsis_match : S := (.asg (.n 3) (.sub (.var 2) (.neg (.lit (.int 1)))))
noncomputable def s12_ellipsis_match : S := (.aug 5 .Sub (.bi .len (.cons (.var 3) .nil)))
noncomputable def s13_ellipsis_match : S := (.del 2 (.neg (.lit (.int 1))))
noncomputable def s14_ellipsis_match : S := (.ret (.lit (.bool false)))
noncomputable def s15_ellipsis_match : S := (.ife (.meth .endswith (.var 1) (.cons (.var 3) .nil)) (.cons s12_ellipsis_match (.cons s13_ellipsis_match .nil)) (.cons s14_ellipsis_match .nil))
noncomputable def s16_ellipsis_match : S := (.ife (.var 3) (.cons s15_ellipsis_match .nil) .nil)
noncomputable def s17_ellipsis_match : S := (.ret (.lit (.bool false)))
noncomputable def s18_ellipsis_match : S := (.ife (.cmp .Gt (.var 4) (.var 5)) (.cons s17_ellipsis_match .nil) .nil)
noncomputable def s19_ellipsis_match : S := (.asg (.n 4) (.meth .find (.var 1) (.cons (.var 3) (.cons (.var 4) (.cons (.var 5) .nil)))))
noncomputable def s20_ellipsis_match : S := (.ret (.lit (.bool false)))
noncomputable def s21_ellipsis_match : S := (.ife (.cmp .Lt (.var 4) (.lit (.int 0))) (.cons s20_ellipsis_match .nil) .nil)
noncomputable def s22_ellipsis_match : S := (.aug 4 .Add (.bi .len (.cons (.var 3) .nil)))
noncomputable def s23_ellipsis_match : S := (.forr (.n 3) (.var 2) (.cons s19_ellipsis_match (.cons s21_ellipsis_match (.cons s22_ellipsis_match .nil))) .nil)
noncomputable def s24_ellipsis_match : S := (.ret (.lit (.bool true)))
noncomputable def tm_ellipsis_match : Ss := (.cons s2_ellipsis_match (.cons s3_ellipsis_match (.cons s4_ellipsis_match (.cons s5_ellipsis_match (.cons s6_ellipsis_match (.cons s10_ellipsis_match (.cons s11_ellipsis_match (.cons s16_ellipsis_match (.cons s18_ellipsis_match (.cons (.fz 2) (.cons s23_ellipsis_match (.cons s24_ellipsis_match .nil))))))))))))
noncomputable def nm_law_word : List Str := ("place" : Str) :: ("named" : Str) :: []
noncomputable def s1_law_word : S := (.asg (.n 1) (.lst (.cons (.lit (.str ("OPTIMIZED" : Str))) (.cons (.lit (.str ("NEWLOCALS" : Str))) (.cons (.lit (.str ("VARARGS" : Str))) (.cons (.lit (.str ("VARKEYWORDS" : Str))) (.cons (.lit (.str ("NESTED" : Str))) (.cons (.lit (.str ("GENERATOR" : Str))) (.cons (.lit (.str ("NOFREE" : Str))) (.cons (.lit (.str ("COROUTINE" : Str))) .nil))))))))))
noncomputable def s2_law_word : S := (.asg (.n 1) (.bin .Add (.var 1) (.lst (.cons (.lit (.str ("ITERABLE_COROUTINE" : Str))) (.cons (.lit (.str ("ASYNC_GENERATOR" : Str))) .nil)))))
noncomputable def s3_law_word : S := (.ret (.sub (.var 1) (.var 0)))
noncomputable def s4_law_word : S := (.ife (.cmp .Lt (.var 0) (.lit (.int 10))) (.cons s3_law_word .nil) .nil)
noncomputable def s5_law_word : S := (.ret (.bin .Add (.bin .Add (.lit (.str ("0x" : Str))) (.sub (.lit (.str ("1248" : Str))) (.bin .Mod (.var 0) (.lit (.int 4))))) (.bin .Mult (.lit (.str ("0" : Str))) (.bin .FloorDiv (.var 0) (.lit (.int 4))))))
noncomputable def tm_law_word : Ss := (.cons s1_law_word (.cons s2_law_word (.cons s4_law_word (.cons s5_law_word .nil))))
noncomputable def nm_law_text : List Str := ("one" : Str) :: ("low" : Str) :: ("above" : Str) :: ("named" : Str) :: ("words" : Str) :: ("text" : Str) :: ("k" : Str) :: []
noncomputable def s1_law_text : S := (.asg (.n 4) (.bin .Add (.comp (.cons (.n 6) (.bi .range (.cons (.lit (.int 5)) .nil)) (.cons (.bin .BitAnd (.bin .RShift (.var 0) (.var 6)) (.lit (.int 1))) .nil) (.done (.call 8 (.cons (.bin .Add (.var 1) (.var 6)) .nil))))) (.var 3)))
noncomputable def s2_law_text : S := (.asg (.n 5) (.meth .join (.lit (.str (", " : Str))) (.cons (.bop .Or (.cons (.var 4) (.cons (.lst (.cons (.lit (.str ("0x0" : Str))) .nil)) .nil))) .nil)))
noncomputable def s3_law_text : S := (.ret (.lit (.str ("" : Str))))
noncomputable def s4_law_text : S := (.ife (.cmp .NotEq (.call 0 (.cons (.bin .Add (.bin .LShift (.var 0) (.var 1)) (.var 2)) .nil)) (.var 5)) (.cons s3_law_text .nil) .nil)
noncomputable def s5_law_text : S := (.ret (.bin .Add (.bin .Add (.lit (.str (" " : Str))) (.var 5)) (.lit (.str ("," : Str)))))
noncomputable def tm_law_text : Ss := (.cons s1_law_text (.cons s2_law_text (.cons s4_law_text (.cons s5_law_text .nil))))
noncomputable def nm_law_alone : List Str := ("own" : Str) :: ("right" : Str) :: ("wrong" : Str) :: ("want" : Str) :: []
noncomputable def s1_law_alone : S := (.asg (.n 1) (.lst (.cons (.var 0) (.cons (.bin .Add (.bin .Add (.slc (.var 0) .no (.lit (.int 1)) .no) (.lit (.str ("..." : Str)))) (.slc (.var 0) (.lit (.int 1)) .no .no)) .nil))))
noncomputable def s2_law_alone : S := (.asg (.n 2) (.lst (.cons (.slc (.var 0) .no .no (.neg (.lit (.int 1)))) (.cons (.bin .Add (.var 0) (.var 0)) (.cons (.slc (.var 0) (.lit (.int 1)) .no .no) (.cons (.bin .Add (.slc (.var 0) (.lit (.int 1)) .no .no) (.lit (.str ("..." : Str)))) (.cons (.bin .Add (.lit (.str ("..." : Str))) (.slc (.var 0) .no (.neg (.lit (.int 1))) .no)) (.cons (.bin .Add (.bin .Add (.var 0) (.lit (.str ("..." : Str)))) (.var 0)) .nil))))))))
noncomputable def s3_law_alone : S := (.asg (.n 2) (.bin .Add (.var 2) (.lst (.cons (.bin .Add (.bin .Add (.bin .Add (.bin .Add (.lit (.str ("..." : Str))) (.slc (.var 0) .no (.neg (.lit (.int 1))) .no)) (.lit (.str ("..." : Str)))) (.slc (.var 0) (.lit (.int 1)) .no .no)) (.lit (.str ("..." : Str)))) (.cons (.bin .Add (.bin .Add (.bin .Add (.bin .Add (.lit (.str ("..." : Str))) (.slc (.var 0) (.lit (.int 1)) .no .no)) (.lit (.str ("..." : Str)))) (.slc (.var 0) .no (.lit (.int 1)) .no)) (.lit (.str ("..." : Str)))) .nil)))))
noncomputable def s4_law_alone : S := (.ret (.lit (.bool false)))
noncomputable def s5_law_alone : S := (.ife (.cmp .NotEq (.comp (.cons (.n 3) (.var 1) (.cons (.cmp .IsNot (.call 7 (.cons (.var 3) (.cons (.var 0) .nil))) (.lit (.bool true))) .nil) (.done (.var 3)))) (.lst .nil)) (.cons s4_law_alone .nil) .nil)
noncomputable def s6_law_alone : S := (.ret (.cmp .Eq (.comp (.cons (.n 3) (.var 2) (.cons (.cmp .IsNot (.call 7 (.cons (.var 3) (.cons (.var 0) .nil))) (.lit (.bool false))) .nil) (.done (.var 3)))) (.lst .nil)))
noncomputable def tm_law_alone : Ss := (.cons s1_law_alone (.cons s2_law_alone (.cons s3_law_alone (.cons s5_law_alone (.cons s6_law_alone .nil)))))
noncomputable def common : List (Str × FnX) := [("pretty_flags",.code nm_pretty_flags 1 3 tm_pretty_flags),
  ("_div2n1n",.code nm_div2n1n 3 8 tm_div2n1n),
  ("_div3n2n",.code nm_div3n2n 6 2 tm_div3n2n),
  ("_int2digits",.hand 30 hand_int2digits),
  ("_digits2int",.hand 30 hand_digits2int),
  ("_divmod_pos",.code nm_divmod_pos 2 7 tm_divmod_pos),
  ("int_divmod",.code nm_int_divmod 2 2 tm_int_divmod),
  ("_ellipsis_match",.code nm_ellipsis_match 2 4 tm_ellipsis_match),
  ("_law_word",.code nm_law_word 1 1 tm_law_word),
  ("_law_text",.code nm_law_text 4 3 tm_law_text),
  ("_law_alone",.code nm_law_alone 1 3 tm_law_alone)]
noncomputable abbrev R (rest : List (Str × FnX)) (n : Nat) : Nat -> List V -> Option V := run (common ++ rest) glob0 flagTab0 n
noncomputable abbrev EvR (rest : List (Str × FnX)) (n : Nat) : Ev := ⟨R rest n,glob0,flagTab0⟩
theorem run_ret {rest : List (Str × FnX)} {n i np k : Nat} {x : Str} {nm : List Str} {bx : Ss} {args : List V} {v : V} {ρ' : Loc} (h : (common ++ rest)[i]? = some (x,.code nm np k bx)) (hl : args.length = np) (e : evSs (EvR rest n) bx (startL args k) = some (.ret v,ρ')) : R rest (n + 1) i args = some v := by
  exact (congrArg (·.bind fun f : Str × FnX => f.2.run (run (common ++ rest) glob0 flagTab0 n) glob0 flagTab0 n args) h : R rest (n + 1) i args = _).trans ((if_pos hl).trans (congrArg FnX.out e))
section
noncomputable abbrev di (i : Int) : Option D := some (.v (.int i))
section
variable {ε : Ev} {ρ ρ' : Loc} {s : S} {r a b : Ss} {t : X} {q : Option (Fl × Loc)}
theorem go_next (h : evS ε s ρ = some (.next,ρ')) (k : evSs ε r ρ' = q) : evSs ε (.cons s r) ρ = q := by
  show (evS ε s ρ).bind _ = _
  rw [h]; exact k
theorem go_ret {d : V} (h : evS ε s ρ = some (.ret d,ρ')) : evSs ε (.cons s r) ρ = some (.ret d,ρ') := by
  show (evS ε s ρ).bind _ = _
  rw [h]; rfl
theorem go_brk (h : evS ε s ρ = some (.brk,ρ')) : evSs ε (.cons s r) ρ = some (.brk,ρ') := by
  show (evS ε s ρ).bind _ = _
  rw [h]; rfl
theorem go_nil : evSs ε .nil ρ = some (.next,ρ) := rfl
theorem if_yes {q : Option (Fl × Loc)} (h : evT ε t ρ = some true) (k : evSs ε a ρ = q) : evS ε (.ife t a b) ρ = q := by
  show (evT ε t ρ).bind _ = _
  rw [h]; exact k
theorem if_no {q : Option (Fl × Loc)} (h : evT ε t ρ = some false) (k : evSs ε b ρ = q) : evS ε (.ife t a b) ρ = q := by
  show (evT ε t ρ).bind _ = _
  rw [h]; exact k
theorem do_asg {tg : Tgt} {x : X} {d : D} {v : V} (h : evE ε x ρ = some d) (f : d.fz = some v) (k : bindT tg v ρ = some ρ') : evS ε (.asg tg x) ρ = some (.next,ρ') := by
  show (evE ε x ρ).bind (fun d => d.fz.bind fun v => (bindT tg v ρ).map fun ρ' => (Fl.next,ρ')) = _
  rw [h]
  show (d.fz.bind fun v => (bindT tg v ρ).map fun ρ' => (Fl.next,ρ')) = _
  rw [f]
  show (bindT tg v ρ).map _ = _
  rw [k]; rfl
theorem do_ret {x : X} {v : V} (d : D) (h : evE ε x ρ = some d) (k : d.dat = v) : evS ε (.ret x) ρ = some (.ret v,ρ) := by
  show (evE ε x ρ).map _ = _
  rw [h]; subst k; rfl
theorem do_own {i : Nat} {x : X} {l : List V} (h : evE ε x ρ = some (.t l)) (k : i < ρ.length) : evS ε (.own i x) ρ = some (.next,ρ.set i (some (.o i l))) := by
  show (evE ε x ρ).bind _ = _
  rw [h]; exact if_pos k
theorem do_aug {i : Nat} {op : Operator} {x : X} {m n z : Int} (e : ρ[i]? = some (some (.v (.int m)))) (h : evE ε x ρ = some (.v (.int n))) (k : binInt op m n = some z) : evS ε (.aug i op x) ρ = some (.next,ρ.set i (some (.v (.int z)))) := by
  show (ρ[i]?).bind _ = _
  rw [e]
  show (evE ε x ρ).bind _ = _
  rw [h]
  show (binInt op m n).map _ = _
  rw [k]; rfl
theorem do_ast {x : X} (h : evT ε x ρ = some true) : evS ε (.ast x) ρ = some (.next,ρ) := by
  show (evT ε x ρ).bind _ = _
  rw [h]; rfl
theorem whl_no {n : Nat} {body : Ss} (h : evT ε t ρ = some false) : whlL (fun ρ => evT ε t ρ) (fun ρ => evSs ε body ρ) (n + 1) ρ = some (.next,ρ) := by
  show (evT ε t ρ).bind _ = _
  rw [h]; rfl
theorem whl_go {n : Nat} {body : Ss} (h : evT ε t ρ = some true) (k : evSs ε body ρ = some (.next,ρ')) : whlL (fun ρ => evT ε t ρ) (fun ρ => evSs ε body ρ) (n + 1) ρ = whlL (fun ρ => evT ε t ρ) (fun ρ => evSs ε body ρ) n ρ' := by
  show (evT ε t ρ).bind _ = _
  rw [h]
  show (evSs ε body ρ).bind _ = _
  rw [k]; rfl
theorem do_whl {n : Nat} {body : Ss} (h : whlL (fun ρ => evT ε t ρ) (fun ρ => evSs ε body ρ) n ρ = some (.next,ρ')) : evS ε (.whl n t body) ρ = some (.next,ρ') := h
theorem for_go {f : V -> Loc -> Option (Fl × Loc)} {d : V} {l : List V} (h : f d ρ = some (.next,ρ')) : forL f (d :: l) ρ = forL f l ρ' := by
  show (f d ρ).bind _ = _
  rw [h]; rfl
theorem do_for {tg : Tgt} {it : X} {body els : Ss} {l : List V} (hz : frozenIt it ρ = true) (h : evI ε it ρ = some l) (k : forL (fun d ρ => (bindT tg d ρ).bind fun ρ' => evSs ε body ρ') l ρ = some (.next,ρ')) : evS ε (.forr tg it body els) ρ = evSs ε els ρ' := by
  show (if frozenIt it ρ = false then none else (evI ε it ρ).bind _) = _
  rw [hz,h]
  show (forL (fun d ρ => (bindT tg d ρ).bind fun ρ' => evSs ε body ρ') l ρ).bind _ = _
  rw [k]; rfl
end
end
theorem and_mask {x : Int} {m : Nat} (h : 0 ≤ x) : Builtin.bitAnd x (2 ^ m - 1) = x % 2 ^ m := by
  have hp : (0 : Int) ≤ 2 ^ m - 1 := by have : (0 : Int) < 2 ^ m := Int.pow_pos (by decide); omega
  rw [bitAnd_pp h hp]
  obtain ⟨n,rfl⟩ := Int.eq_ofNat_of_zero_le h
  have e : ((2 : Int) ^ m - 1).toNat = 2 ^ m - 1 := by
    have : ((2 : Int) ^ m) = ((2 ^ m : Nat) : Int) := by simp
    rw [this]; omega
  rw [e]
  simp only [Int.toNat_natCast]
  rw [Nat.and_two_pow_sub_one_eq_mod]
  simp
theorem or_shift {r a : Int} {m : Nat} (hr : 0 ≤ r) (h0 : 0 ≤ a) (h : a < 2 ^ m) : Builtin.bitOr (r * 2 ^ m) a = r * 2 ^ m + a := by
  obtain ⟨n,rfl⟩ := Int.eq_ofNat_of_zero_le hr
  obtain ⟨k,rfl⟩ := Int.eq_ofNat_of_zero_le h0
  have e1 : ((n : Int) * 2 ^ m) = ((n * 2 ^ m : Nat) : Int) := by simp
  rw [bitOr_and,e1,bitAnd_pp (by omega) (by omega)]
  simp only [Int.toNat_natCast]
  have hk : k < 2 ^ m := by
    have : ((k : Nat) : Int) < ((2 ^ m : Nat) : Int) := by simpa using h
    omega
  have : n * 2 ^ m &&& k = 0 := by
    apply Nat.eq_of_testBit_eq
    intro i
    rw [Nat.testBit_and,Nat.testBit_mul_two_pow]
    simp
    intro h1 h2
    exact Nat.testBit_lt_two_pow (Nat.lt_of_lt_of_le hk (Nat.pow_le_pow_right (by decide) h1))
  rw [this]; simp
section
theorem catM_map {f : V -> Option (List V)} {g : V -> List V} : ∀ {l : List V},(∀ d ∈ l,f d = some (g d)) -> catM f l = some (l.flatMap g)
  | [],_ => rfl
  | d :: l,h => by
    exact bind2 (h d List.mem_cons_self) (catM_map fun x hx => h x (List.mem_cons_of_mem _ hx))
theorem bindK {α β : Type} {o : Option α} {f : α -> Option β} {a : α} {b : Option β} (h : o = some a) (k : f a = b) : o.bind f = b := by subst h; exact k
section
variable {ε : Ev} {ρ : Loc} {i : Nat} {it x cond : X} {l : List V}
theorem bind_n {d : V} (hi : i < ρ.length) : bindT (.n i) d (wipe [i] ρ) = some (ρ.set i (some (.v d))) := by
  show bindT (.n i) d (ρ.set i none) = _
  show (if i < (ρ.set i none).length then some ((ρ.set i none).set i (some (.v d))) else none) = _
  rw [if_pos (by rw [List.length_set]; exact hi),List.set_set]
theorem comp_any {ifs : Xs} {r : Gs} {p : V -> Bool} {g : V -> List V} (hi : i < ρ.length) (hr : r.ids = []) (hit : evI ε it ρ = some l) (hp : ∀ d ∈ l,evA ε .And ifs (ρ.set i (some (.v d))) = some (p d)) (hg : ∀ d ∈ l,p d = true -> evG ε r (ρ.set i (some (.v d))) (ρ.set i (some (.v d))) = some (g d))
    (hlim : (l.flatMap fun d => if p d then g d else []).length ≤ lim) : evE ε (.comp (.cons (.n i) it ifs r)) ρ = some (.t (l.flatMap fun d => if p d then g d else [])) := by
  have hids : (Gs.cons (.n i) it ifs r).ids = [i] := by
    show [i] ++ r.ids = [i]
    rw [hr]; rfl
  show ((evI ε it ρ).bind fun l => catM (fun d => (bindT (.n i) d (wipe (Gs.cons (.n i) it ifs r).ids ρ)).bind fun ρ' => (evA ε .And ifs ρ').bind fun b => if b then evG ε r ρ' ρ' else some []) l).bind _ = _
  rw [hit,hids]
  show (catM (fun d => (bindT (.n i) d (wipe [i] ρ)).bind fun ρ' => (evA ε .And ifs ρ').bind fun b => if b then evG ε r ρ' ρ' else some []) l).bind _ = _
  rw [catM_map (g:=fun d => if p d then g d else [])]
  · exact if_pos hlim
  · intro d hd
    rw [bind_n hi]
    show (evA ε .And ifs (ρ.set i (some (.v d)))).bind _ = _
    rw [hp d hd]
    show (if p d then evG ε r (ρ.set i (some (.v d))) (ρ.set i (some (.v d))) else some []) = _
    cases h : p d with
    | true => exact hg d hd h
    | false => rfl
theorem and_one {b : Bool} (h : evT ε cond ρ = some b) : evA ε .And (.cons cond .nil) ρ = some b := by
  show (evT ε cond ρ).bind _ = _
  rw [h]
  cases b <;> rfl
theorem done_one {d : D} {v : V} {ρ' : Loc} (h : evE ε x ρ = some d) (hf : d.fz = some v) : evG ε (.done x) ρ ρ' = some [v] := by
  exact bindK h (bindK hf rfl)
theorem comp_none (hi : i < ρ.length) (hit : evI ε it ρ = some l) (hp : ∀ d ∈ l,evT ε cond (ρ.set i (some (.v d))) = some false) : evE ε (.comp (.cons (.n i) it (.cons cond .nil) (.done x))) ρ = some (.t []) := by
  have e : (l.flatMap fun d => if (fun _ : V => false) d then ([] : List V) else []) = [] := by
    induction l with
    | nil => rfl
    | cons d l ih => rw [List.flatMap_cons]; simp
  rw [<- e]
  exact comp_any (p:=fun _ => false) (g:=fun _ => []) hi rfl hit (fun d hd => and_one (hp d hd)) (fun d hd h => by cases h) (by rw [e]; exact Nat.zero_le _)
end
section
variable {ε : Ev} {ρ : Loc} {f : Nat} {xs : Xs} {ds : List D} {vs : List V} {d : V} {l : List V} {x y : X}
theorem evE_call (h1 : evXs ε xs ρ = some ds) (h2 : fzs ds = some vs) (h3 : ε.F f vs = some d) : evE ε (.call f xs) ρ = some (.v d) :=
  (bindK h1 (bindK h2 (congrArg (Option.map D.v) h3)) : evE ε (.call f xs) ρ = _)
theorem evXs_cons {a : D} (h1 : evE ε x ρ = some a) (h2 : evXs ε xs ρ = some ds) : evXs ε (.cons x xs) ρ = some (a :: ds) :=
  (bindK h1 (bindK h2 rfl) : evXs ε (.cons x xs) ρ = _)
theorem ev_var {i : Nat} {a : D} (h : ρ[i]? = some (some a)) : evE ε (.var i) ρ = some a := evV h
theorem ev_bin {op : Operator} {a b c : D} (h1 : evE ε x ρ = some a) (h2 : evE ε y ρ = some b) (h3 : binD op a b = some c) : evE ε (.bin op x y) ρ = some c :=
  (bindK h1 (bindK h2 h3) : evE ε (.bin op x y) ρ = _)
theorem ev_sub {a b c : D} (h1 : evE ε x ρ = some a) (h2 : evE ε y ρ = some b) (h3 : subD a b = some c) : evE ε (.sub x y) ρ = some c :=
  (bindK h1 (bindK h2 h3) : evE ε (.sub x y) ρ = _)
theorem ev_lst (h1 : evXs ε xs ρ = some ds) (h2 : fzs ds = some vs) (h3 : vs.length ≤ lim) : evE ε (.lst xs) ρ = some (.t vs) :=
  (bindK h1 (bindK h2 (if_pos h3)) : evE ε (.lst xs) ρ = _)
theorem ev_tup (h1 : evXs ε xs ρ = some ds) (h2 : fzs ds = some vs) (h3 : vs.length ≤ lim) : evE ε (.tup xs) ρ = some (.v (.tup vs)) :=
  (bindK h1 (bindK h2 (if_pos h3)) : evE ε (.tup xs) ρ = _)
theorem ev_cmp {op : CmpOp} {a b : D} {c : Bool} (h1 : evE ε x ρ = some a) (h2 : evE ε y ρ = some b) (h3 : cmpD op a b = some c) : evT ε (.cmp op x y) ρ = some c :=
  (bindK h1 (bindK h2 h3) : evT ε (.cmp op x y) ρ = _)
theorem ev_neg {i : Int} (h1 : evE ε x ρ = some (.v (.int i))) : evE ε (.neg x) ρ = some (.v (.int (-i))) :=
  (bindK h1 rfl : evE ε (.neg x) ρ = _)
theorem evI_var {i : Nat} {a : D} (h : ρ[i]? = some (some a)) (h4 : a.items = some l) (h5 : l.length ≤ lim) : evI ε (.var i) ρ = some l :=
  (bindK (bindK h rfl) (bindK h4 (if_pos h5)) : evI ε (.var i) ρ = _)
theorem and_two {a b : X} {p q : Bool} (h1 : evT ε a ρ = some p) (h2 : evT ε b ρ = some q) : evA ε .And (.cons a (.cons b .nil)) ρ = some (p && q) := by
  show (evT ε a ρ).bind _ = _
  rw [h1]; cases p
  · rfl
  · simp only [Option.bind_some]; rw [if_neg (by decide),and_one h2]; rfl
end
end
section
theorem le_lim {n : Nat} (h : n ≤ 1000000) : n ≤ lim := Nat.le_trans h (by decide)
theorem map_lim {α β : Type} {f : α -> β} {l : List α} {k : Nat} (h : l.length ≤ k) : (l.map f).length ≤ k := Nat.le_trans (Nat.le_of_eq (List.length_map f)) h
theorem place_last : ∀ {n : Nat} (h : 0 < n),place n (-1) = some (n - 1)
  | k + 1,h => (if_neg (by decide)).trans ((if_pos (Int.neg_le_neg (Int.ofNat_le.mpr h))).trans (congrArg (fun z : Int => some z.toNat) ((congrArg (-1 + ·) (Int.add_comm k 1)).trans (Int.neg_add_cancel_left 1 k))))
theorem sub_at {d : D} {l : List V} {v : V} {k : Nat} (hs : d.str = none) (hd : d.items = some l) (hl : l.length ≤ lim) (h : l[k]? = some v) : subD d (.v (.int k)) = some (.v v) := by
  show (match d.str with | some x => strAt x k | none => d.items.bind fun l => rowAt l k) = _
  rw [hs,hd]
  exact (if_pos hl).trans (bindK (place_nat (List.getElem?_eq_some_iff.mp h).1) (congrArg (Option.map D.v) h))
theorem sub_last {d : D} {l : List V} {v : V} (hs : d.str = none) (hd : d.items = some l) (hl : l.length ≤ lim) (h : l.getLast? = some v) : subD d (.v (.int (-1))) = some (.v v) := by
  show (match d.str with | some x => strAt x (-1) | none => d.items.bind fun l => rowAt l (-1)) = _
  rw [hs,hd]
  rw [List.getLast?_eq_getElem?] at h
  exact (if_pos hl).trans (bindK (place_last (Nat.lt_of_le_of_lt (Nat.zero_le _) (List.getElem?_eq_some_iff.mp h).1)) (congrArg (Option.map D.v) h))
section
variable {ε : Ev} {ρ ρ' : Loc} {x y : X} {xs : Xs} {a b c d : D} {ds : List D} {vs l : List V} {v : V} {t : Bool} {i : Nat}
theorem ev_gl (h : ε.G i = some v) : evE ε (.gl i) ρ = some (.v v) := (congrArg (Option.map D.v) h : evE ε (.gl i) ρ = _)
theorem ev_lenS {s : Str} (h : evE ε x ρ = some (.v (.str s))) (hl : s.length ≤ lim) : evE ε (.bi .len (.cons x .nil)) ρ = some (.v (.int s.length)) :=
  (bindK (evXs_cons h rfl) (if_pos hl) : evE ε (.bi .len (.cons x .nil)) ρ = _)
theorem ev_lenI (h : evE ε x ρ = some d) (hs : d.str = none) (hd : d.items = some l) (hl : l.length ≤ lim) : evE ε (.bi .len (.cons x .nil)) ρ = some (.v (.int l.length)) :=
  (bindK (evXs_cons h rfl) (by
    show (match d.str with | some x => some x.length | none => d.items.map List.length).bind _ = _
    rw [hs,hd]
    exact if_pos hl) : evE ε (.bi .len (.cons x .nil)) ρ = _)
theorem ev_me {m : Me} (h1 : evE ε x ρ = some a) (h2 : evXs ε xs ρ = some ds) (h3 : meD m a ds = some d) : evE ε (.meth m x xs) ρ = some d :=
  (bindK h1 (bindK h2 h3) : evE ε (.meth m x xs) ρ = _)
theorem ev_bi {m : Bi} (h2 : evXs ε xs ρ = some ds) (h3 : biD m ds = some d) : evE ε (.bi m xs) ρ = some d :=
  (bindK h2 h3 : evE ε (.bi m xs) ρ = _)
theorem tv_me {m : Me} (h1 : evE ε x ρ = some a) (h2 : evXs ε xs ρ = some ds) (h3 : meD m a ds = some d) (h4 : truth d = some t) : evT ε (.meth m x xs) ρ = some t :=
  (bindK h1 (bindK h2 (bindK h3 h4)) : evT ε (.meth m x xs) ρ = _)
theorem tv_var (h : ρ[i]? = some (some d)) (h4 : truth d = some t) : evT ε (.var i) ρ = some t :=
  (bindK (bindK h rfl) h4 : evT ε (.var i) ρ = _)
theorem tv_bin {op : Operator} (h1 : evE ε x ρ = some a) (h2 : evE ε y ρ = some b) (h3 : binD op a b = some d) (h4 : truth d = some t) : evT ε (.bin op x y) ρ = some t :=
  (bindK h1 (bindK h2 (bindK h3 h4)) : evT ε (.bin op x y) ρ = _)
theorem tv_sub (h1 : evE ε x ρ = some a) (h2 : evE ε y ρ = some b) (h3 : subD a b = some d) (h4 : truth d = some t) : evT ε (.sub x y) ρ = some t :=
  (bindK h1 (bindK h2 (bindK h3 h4)) : evT ε (.sub x y) ρ = _)
theorem tv_call {f : Nat} (h1 : evXs ε xs ρ = some ds) (h2 : fzs ds = some vs) (h3 : ε.F f vs = some v) (h4 : truth (.v v) = some t) : evT ε (.call f xs) ρ = some t :=
  (bindK h1 (bindK h2 (bindK h3 h4)) : evT ε (.call f xs) ρ = _)
theorem tv_not (h : evT ε x ρ = some t) : evT ε (.not x) ρ = some (!t) := (congrArg (Option.map (!·)) h : evT ε (.not x) ρ = _)
theorem evB_cmp {op : CmpOp} (h1 : evE ε x ρ = some a) (h2 : evE ε y ρ = some b) (h3 : cmpD op a b = some t) : evE ε (.cmp op x y) ρ = some (.v (.bool t)) :=
  (bindK h1 (bindK h2 (congrArg (Option.map fun c => D.v (.bool c)) h3)) : evE ε (.cmp op x y) ρ = _)
theorem ev_slc {lo hi st : X} {p q r : D} (h1 : evE ε x ρ = some a) (h2 : evE ε lo ρ = some p) (h3 : evE ε hi ρ = some q) (h4 : evE ε st ρ = some r) (h5 : slcD a p q r = some d) : evE ε (.slc x lo hi st) ρ = some d :=
  (bindK h1 (bindK h2 (bindK h3 (bindK h4 h5))) : evE ε (.slc x lo hi st) ρ = _)
theorem evI_slc {lo hi st : X} (h : evE ε (.slc x lo hi st) ρ = some d) (h4 : d.items = some l) (h5 : l.length ≤ lim) : evI ε (.slc x lo hi st) ρ = some l := by
  show ((evE ε x ρ).bind fun x => (evE ε lo ρ).bind fun p => (evE ε hi ρ).bind fun h => (evE ε st ρ).bind fun s => (slcD x p h s).bind fun x => x.items.bind fun l => if l.length ≤ lim then some l else none) = _
  exact bindE h fun a e1 h => bindE h fun p e2 h => bindE h fun q e3 h => bindE h fun r e4 h => bindK e1 (bindK e2 (bindK e3 (bindK e4 (bindK h (bindK h4 (if_pos h5))))))
theorem evI_rev (h : evE ε x ρ = some (.v (.list l))) (hl : l.length ≤ lim) : evI ε (.bi .reversed (.cons x .nil)) ρ = some l.reverse :=
  (bindK h (if_pos hl) : evI ε (.bi .reversed (.cons x .nil)) ρ = _)
theorem do_del {k : Int} {j : Nat} (h : evE ε x ρ = some (.v (.int k))) (o : ownAt i ρ = some l) (p : place l.length k = some j) (hl : l.length ≤ lim) : evS ε (.del i x) ρ = some (.next,ρ.set i (some (.o i (l.eraseIdx j)))) :=
  (bindK h (bindK rfl (bindK o (bindK p (if_pos hl)))) : evS ε (.del i x) ρ = _)
theorem do_rvs (o : ownAt i ρ = some l) (hl : l.length ≤ lim) : evS ε (.rvs i) ρ = some (.next,ρ.set i (some (.o i l.reverse))) :=
  (bindK o (if_pos hl) : evS ε (.rvs i) ρ = _)
theorem own_at (o : ρ[i]? = some (some (.o i l))) : ownAt i ρ = some l := by
  unfold ownAt
  rw [o]
  exact if_pos rfl
theorem do_app (h : evE ε x ρ = some d) (f : d.fz = some v) (o : ρ[i]? = some (some (.o i l))) (hl : l.length ≤ lim) : evS ε (.app i x) ρ = some (.next,ρ.set i (some (.o i (l ++ [v])))) :=
  (bindK h (bindK f (bindK (own_at o) (if_pos hl))) : evS ε (.app i x) ρ = _)
theorem do_fz (o : ρ[i]? = some (some (.o i l))) : evS ε (.fz i) ρ = some (.next,ρ.set i (some (.v (.list l)))) :=
  (bindK (own_at o) rfl : evS ε (.fz i) ρ = _)
theorem for_ret {f : V -> Loc -> Option (Fl × Loc)} {l : List V} {w : V} (h : f v ρ = some (.ret w,ρ')) : forL f (v :: l) ρ = some (.ret w,ρ') :=
  (bindK h rfl : forL f (v :: l) ρ = _)
theorem do_forr {tg : Tgt} {it : X} {body els : Ss} {l : List V} (hz : frozenIt it ρ = true) (h : evI ε it ρ = some l) (k : forL (fun d ρ => (bindT tg d ρ).bind fun ρ' => evSs ε body ρ') l ρ = some (.ret v,ρ')) : evS ε (.forr tg it body els) ρ = some (.ret v,ρ') :=
  (if_neg (fun q => Bool.noConfusion (hz.symm.trans q))).trans (bindK h (bindK k rfl))
theorem or_1 (h : evE ε x ρ = some d) (ht : truth d = some true) : evE ε (.bop .Or (.cons x (.cons y .nil))) ρ = some d :=
  (bindK h (bindK ht (if_pos rfl)) : evE ε (.bop .Or (.cons x (.cons y .nil))) ρ = _)
theorem or_2 (h : evE ε x ρ = some d) (ht : truth d = some false) (hy : evE ε y ρ = some a) : evE ε (.bop .Or (.cons x (.cons y .nil))) ρ = some a :=
  (bindK h (bindK ht ((if_neg (by decide)).trans (bindK hy rfl))) : evE ε (.bop .Or (.cons x (.cons y .nil))) ρ = _)
end
section
variable {ε : Ev} {ρ : Loc} {α : Type} {v : α -> V}
theorem catM_A {f : V -> Option (List V)} {g : α -> List V} : ∀ {l : List α},(∀ a ∈ l,f (v a) = some (g a)) -> catM f (l.map v) = some (l.flatMap g)
  | [],_ => rfl
  | d :: l,h => bind2 (h d List.mem_cons_self) (catM_A fun x hx => h x (List.mem_cons_of_mem _ hx))
theorem flat_ifA {p : α -> Bool} {g : α -> V} : ∀ l : List α,(l.flatMap fun d => if p d then [g d] else []) = (l.filter p).map g
  | [] => rfl
  | d :: l => by
    rw [List.flatMap_cons,flat_ifA l,List.filter_cons]
    cases p d <;> rfl
theorem if_some {β : Type} {b : Bool} {o : Option β} {x y : β} (h : b = true -> o = some x) : (if b then o else some y) = some (if b then x else y) := by
  cases b with
  | true => exact h rfl
  | false => rfl
theorem evG_A {t : Tgt} {it : X} {ifs : Xs} {r : Gs} {ρ0 : Loc} {as : List α} {st : α -> Loc} {p : α -> Bool} {g : α -> List V} (hit : evI ε it ρ = some (as.map v)) (hb : ∀ a ∈ as,bindT t (v a) ρ0 = some (st a)) (hp : ∀ a ∈ as,evA ε .And ifs (st a) = some (p a)) (hx : ∀ a ∈ as,p a = true -> evG ε r (st a) (st a) = some (g a)) :
    evG ε (.cons t it ifs r) ρ ρ0 = some (as.flatMap fun a => if p a then g a else []) :=
  (bindK hit (catM_A fun a ha => bindK (hb a ha) (bindK (hp a ha) (if_some (hx a ha)))) : evG ε (.cons t it ifs r) ρ ρ0 = _)
theorem comp_A {t : Tgt} {it : X} {ifs : Xs} {x : X} {as : List α} {st : α -> Loc} {p : α -> Bool} {f : α -> D} {g : α -> V} (hit : evI ε it ρ = some (as.map v)) (hb : ∀ a ∈ as,bindT t (v a) (wipe t.ids ρ) = some (st a)) (hp : ∀ a ∈ as,evA ε .And ifs (st a) = some (p a)) (hx : ∀ a ∈ as,p a = true -> evE ε x (st a) = some (f a) /\ (f a).fz = some (g a)) (hl : as.length ≤ lim) :
    evE ε (.comp (.cons t it ifs (.done x))) ρ = some (.t ((as.filter p).map g)) :=
  have hids : (Gs.cons t it ifs (.done x)).ids = t.ids := List.append_nil _
  (bindK ((hids ▸ evG_A hit hb hp (fun a ha h => done_one (hx a ha h).1 (hx a ha h).2) : evG ε (.cons t it ifs (.done x)) ρ (wipe (Gs.cons t it ifs (.done x)).ids ρ) = _).trans (congrArg some (flat_ifA as)))
    (if_pos (map_lim (Nat.le_trans (List.length_filter_le _ _) hl))) : evE ε (.comp (.cons t it ifs (.done x))) ρ = _)
theorem comp_M {t : Tgt} {it : X} {x : X} {as : List α} {st : α -> Loc} {f : α -> D} {g : α -> V} (hit : evI ε it ρ = some (as.map v)) (hb : ∀ a ∈ as,bindT t (v a) (wipe t.ids ρ) = some (st a)) (hx : ∀ a ∈ as,evE ε x (st a) = some (f a) /\ (f a).fz = some (g a)) (hl : as.length ≤ lim) :
    evE ε (.comp (.cons t it .nil (.done x))) ρ = some (.t (as.map g)) :=
  (comp_A (ifs:=.nil) (p:=fun _ => true) hit hb (fun _ _ => rfl) (fun a ha _ => hx a ha) hl).trans (congrArg (fun l => some (D.t (l.map g))) (List.filter_eq_self.mpr fun _ _ => rfl))
end
end
section
theorem pow_cast (n : Nat) : ((2 : Int) ^ n) = ((2 ^ n : Nat) : Int) := by rw [Int.natCast_pow]; rfl
theorem bits_le {x : Int} {k : Nat} (h0 : 0 ≤ x) (h : x < 2 ^ k) : bits x ≤ k := by
  obtain ⟨n,rfl⟩ := Int.eq_ofNat_of_zero_le h0
  rw [pow_cast] at h
  exact intBits_le_iff.mpr (Int.ofNat_lt.mp h)
theorem bits_lt {x : Int} {k : Nat} (h : bits x ≤ k) : x < 2 ^ k := by
  rw [pow_cast]
  exact Int.lt_of_le_of_lt Int.le_natAbs (Int.ofNat_lt.mpr (intBits_le_iff.mp h))
theorem bits_ge {x : Int} {k : Nat} (h0 : 0 < x) (h : bits x = k) : 2 ^ (k - 1) ≤ x /\ 1 ≤ k := by
  have hk : 1 ≤ k := by
    cases k with
    | zero => exact absurd (bits_lt (Nat.le_of_eq h)) (Int.not_lt.mpr h0)
    | succ k => exact Nat.succ_pos k
  exact ⟨Int.not_lt.mp fun q => Nat.not_le_of_lt (Nat.sub_lt hk Nat.one_pos) (Nat.le_trans (Nat.le_of_eq h.symm) (bits_le (Int.le_of_lt h0) q)),hk⟩
theorem pow_pos' (m : Nat) : (0 : Int) < 2 ^ m := Int.pow_pos (by decide)
theorem pow_add' (a b : Nat) : (2 : Int) ^ (a + b) = 2 ^ a * 2 ^ b := Int.pow_add ..
theorem shl_bin {a : Int} {m : Nat} (h : bits a + m ≤ 134217728) : binInt .LShift a m = some (a * 2 ^ m) :=
  if_pos ⟨Int.natCast_nonneg m,Int.ofNat_le.mpr h⟩
theorem shr_bin {a : Int} {m : Nat} (h : 0 ≤ a) : binInt .RShift a m = some (a / 2 ^ m) :=
  (if_pos (e:=none) (Int.natCast_nonneg m)).trans (congrArg some (Int.fdiv_eq_ediv_of_nonneg a (Int.le_of_lt (pow_pos' m))))
theorem mul_bin {a b : Int} (h : bits a + bits b ≤ 134217728) : binInt .Mult a b = some (a * b) := if_pos h
theorem and_1 (a : Nat) : binInt .BitAnd (a : Int) 1 = some ((a % 2 : Nat) : Int) := congrArg some (bitAnd_m1 _)
theorem told {a b q r : Int} (hb : 0 < b) (h0 : 0 ≤ r) (h1 : r < b) (e : q * b + r = a) : a.fdiv b = q /\ a.fmod b = r := by
  rw [Int.fdiv_eq_ediv_of_nonneg _ (Int.le_of_lt hb),Int.fmod_eq_emod_of_nonneg _ (Int.le_of_lt hb),<- e,Int.add_comm,Int.add_mul_ediv_right _ _ (Int.ne_of_gt hb),Int.ediv_eq_zero_of_lt h0 h1,Int.add_mul_emod_self_right,Int.emod_eq_of_lt h0 h1]
  exact ⟨Int.zero_add q,rfl⟩
section
variable {rest : List (Str × FnX)}
theorem div2_small (n : Nat) (a b m : Int) (hb : b ≠ 0) (hbb : bits b < 9000) (h : (bits a : Int) - m ≤ 4000) : R rest (n + 1) 1 [.int a,.int b,.int m] = some (.tup [.int (a.fdiv b),.int (a.fmod b)]) :=
  run_ret rfl rfl (go_ret (if_yes (congrArg some (decide_eq_true h)) (go_ret (do_ret (.v (.tup [.int (a.fdiv b),.int (a.fmod b)])) (if_pos ⟨hb,hbb⟩) rfl))))
theorem div3_fix {a b q r : Int} (hb : 0 < b) (h : a = q * b + r) (k : Nat) (h0 : 0 ≤ r + k * b) (h1 : r + k * b < b) : a.fdiv b = q - k /\ a.fmod b = r + k * b :=
  told hb h0 h1 (by rw [h,Int.sub_mul,Int.add_comm r,<- Int.add_assoc,Int.sub_add_cancel])
noncomputable abbrev st3 (a12 a3 b b1 b2 m : Int) (r q : Option D) : Loc := [some (.v (.int a12)),some (.v (.int a3)),some (.v (.int b)),some (.v (.int b1)),some (.v (.int b2)),some (.v (.int m)),r,q]
theorem next_b (r b : Int) (k : Nat) : r + b + k * b = r + ((k + 1 : Nat) : Int) * b := by
  rw [Int.natCast_succ,Int.add_mul,Int.one_mul,Int.add_assoc,Int.add_comm b]
theorem next_q (q : Int) (k : Nat) : q - 1 - k = q - ((k + 1 : Nat) : Int) := by
  rw [Int.sub_sub,Int.add_comm 1]; rfl
theorem div3_loop (n : Nat) {a12 a3 b b1 b2 m : Int} : ∀ (k fuel : Nat) (r q : Int),(∀ j : Nat,j < k -> r + j * b < 0) -> 0 ≤ r + k * b -> k < fuel ->
    whlL (fun ρ => evT (EvR rest n) (.cmp .Lt (.var 6) (.lit (.int 0))) ρ) (fun ρ => evSs (EvR rest n) (.cons s5_div3n2n (.cons (.aug 6 .Add (.var 2)) .nil)) ρ) fuel (st3 a12 a3 b b1 b2 m (di r) (di q)) = some (.next,st3 a12 a3 b b1 b2 m (di (r + k * b)) (di (q - k)))
  | 0,f + 1,r,q,hk,h0,hf => by
    rw [Int.natCast_zero,Int.zero_mul,Int.add_zero,Int.sub_zero] at *
    exact whl_no (ev_cmp (evV rfl) rfl (congrArg some (decide_eq_false (Int.not_lt.mpr h0))))
  | k + 1,f + 1,r,q,hk,h0,hf => by
    have hr : r < 0 := by have := hk 0 (Nat.succ_pos k); rw [Int.natCast_zero,Int.zero_mul,Int.add_zero] at this; exact this
    have hn : evT (EvR rest n) (.cmp .Lt (.var 6) (.lit (.int 0))) (st3 a12 a3 b b1 b2 m (di r) (di q)) = some true := ev_cmp (evV rfl) rfl (congrArg some (decide_eq_true hr))
    rw [<- next_b,<- next_q]
    exact (whl_go (ρ' := st3 a12 a3 b b1 b2 m (di (r + b)) (di (q - 1))) hn rfl).trans (div3_loop n k f (r + b) (q - 1) (fun j hj => next_b r b j ▸ hk (j + 1) (Nat.succ_lt_succ hj)) (next_b r b k ▸ h0) (Nat.lt_of_succ_lt_succ hf))
noncomputable abbrev QR (a12 a3 b1 b2 P q r : Int) : Prop := a12 = q * b1 + r /\ 0 ≤ r /\ 0 ≤ q /\ q < P /\ r * P + a3 - q * b2 < b1 * P + b2
section
variable {a12 a3 b1 b2 P q r : Int} (hP : 0 < P) (h2 : 0 ≤ a3) (h3 : a3 < P) (h4 : 0 ≤ b2) (hb1 : 0 < b1)
include hP h3 h4 hb1
theorem qr_top (h : b1 * P ≤ a12) (h1 : a12 < b1 * P + b2) : QR a12 a3 b1 b2 P (P - 1) (a12 - b1 * P + b1) := by
  have e3 : (a12 - b1 * P + 1) * P ≤ b2 * P := Int.mul_le_mul_of_nonneg_right (by lia) (Int.le_of_lt hP)
  refine ⟨?_,by lia,Int.sub_nonneg_of_le hP,Int.sub_one_lt_of_le (Int.le_refl P),?_⟩
  · rw [Int.sub_mul,Int.mul_comm P b1,Int.one_mul]; clear e3 h1 h h3 h4; lia
  · rw [Int.add_mul,Int.one_mul] at e3
    rw [Int.add_mul,Int.sub_mul P 1 b2,Int.one_mul,Int.mul_comm P b2]
    clear h h1 hb1 h4
    generalize (a12 - b1 * P) * P = x,b2 * P = y,b1 * P = z at *
    lia
theorem qr_low (h0 : 0 ≤ a12) (h : a12 < b1 * P) : QR a12 a3 b1 b2 P (a12 / b1) (a12 % b1) := by
  have e1 : (a12 % b1 + 1) * P ≤ b1 * P := Int.mul_le_mul_of_nonneg_right (Int.emod_lt_of_pos a12 hb1) (Int.le_of_lt hP)
  have hq0 : 0 ≤ a12 / b1 := Int.ediv_nonneg h0 (Int.le_of_lt hb1)
  have e2 : 0 ≤ a12 / b1 * b2 := Int.mul_nonneg hq0 h4
  refine ⟨(Int.ediv_mul_add_emod a12 b1).symm,Int.emod_nonneg a12 (Int.ne_of_gt hb1),hq0,Int.ediv_lt_of_lt_mul hb1 (Int.mul_comm b1 P ▸ h),?_⟩
  rw [Int.add_mul,Int.one_mul] at e1
  clear h h0 hb1 hq0
  generalize a12 % b1 * P = x,a12 / b1 * b2 = y,b1 * P = z at *
  lia
omit h3 hb1
include h2
theorem qr_fix (H : QR a12 a3 b1 b2 P q r) (h5 : b2 < P) (h6 : P ≤ 2 * b1) : 0 ≤ r * P + a3 - q * b2 + 2 * (b1 * P + b2) /\ a12 * P + a3 = q * (b1 * P + b2) + (r * P + a3 - q * b2) := by
  have hqb2 : q * b2 ≤ P * P := Int.mul_le_mul (Int.le_of_lt H.2.2.2.1) (Int.le_of_lt h5) h4 (Int.le_of_lt hP)
  have hrP : 0 ≤ r * P := Int.mul_nonneg H.2.1 (Int.le_of_lt hP)
  have h2b : P * P ≤ 2 * b1 * P := Int.mul_le_mul_of_nonneg_right h6 (Int.le_of_lt hP)
  have e := H.1
  rw [Int.mul_assoc] at h2b
  constructor
  · clear H h5 h6 e
    generalize q * b2 = x,r * P = y,b1 * P = z,P * P = w at *
    lia
  · rw [e,Int.add_mul,Int.mul_add,Int.mul_assoc]
    clear H h5 h6 hqb2 hrP h2b e
    generalize q * (b1 * P) = x,q * b2 = y,r * P = z
    lia
end
theorem fix_k {r b : Int} (h1 : r < b) (h2 : 0 ≤ r + 2 * b) : ∃ k : Nat,k ≤ 2 /\ (∀ j : Nat,j < k -> r + j * b < 0) /\ 0 ≤ r + k * b /\ r + k * b < b := by
  by_cases c0 : 0 ≤ r
  · exact ⟨0,Nat.zero_le 2,fun j hj => absurd hj (Nat.not_lt_zero j),by rw [Int.natCast_zero,Int.zero_mul,Int.add_zero]; exact ⟨c0,h1⟩⟩
  · have c0 := Int.lt_of_not_ge c0
    have z : r + ((0 : Nat) : Int) * b < 0 := by rw [Int.natCast_zero,Int.zero_mul,Int.add_zero]; exact c0
    have e1 : r + ((1 : Nat) : Int) * b = r + b := congrArg (r + ·) (Int.one_mul b)
    by_cases c1 : 0 ≤ r + b
    · refine ⟨1,by decide,fun j hj => ?_,by rw [e1]; exact ⟨c1,Int.lt_of_lt_of_le (Int.add_lt_add_right c0 b) (Int.le_of_eq (Int.zero_add b))⟩⟩
      rw [Nat.lt_one_iff.mp hj]
      exact z
    · have c1 := Int.lt_of_not_ge c1
      refine ⟨2,Nat.le_refl 2,fun j hj => ?_,h2,?_⟩
      · match j,hj with
        | 0,_ => exact z
        | 1,_ => exact e1 ▸ c1
      · show r + 2 * b < b
        lia
section
variable {n m : Nat} {a12 a3 b b1 b2 q r P : Int}
theorem d3_test {ε : Ev} {x y : Option D} {t : Bool} (h0 : 0 ≤ a12) (h : decide (a12 / 2 ^ m = b1) = t) : evT ε (.cmp .Eq (.bin .RShift (.var 0) (.var 5)) (.var 3)) (st3 a12 a3 b b1 b2 m x y) = some t :=
  ev_cmp (evBin (evV rfl) (evV rfl) (shr_bin h0)) (evV rfl) (congrArg some h)
theorem d3_top {ε : Ev} (hm : m ≤ 10000) (h0 : 0 ≤ a12) (hb : bits b1 ≤ 10000) (h : a12 / 2 ^ m = b1) : evS ε s3_div3n2n (st3 a12 a3 b b1 b2 m none none) = some (.next,st3 a12 a3 b b1 b2 m (di (a12 - b1 * 2 ^ m + b1)) (di (2 ^ m - 1))) :=
  if_yes (d3_test h0 (decide_eq_true h)) (go_next (do_asg (v:=.tup [.int (2 ^ m - 1),.int (a12 - b1 * 2 ^ m + b1)]) (ev_tup (evXs_cons (evBin (evBin rfl (evV rfl) ((shl_bin (Nat.le_trans (Nat.add_le_add_left hm 1) (by decide))).trans (congrArg some (Int.one_mul _)))) rfl rfl) (evXs_cons (evBin (evBin (evV rfl) (evBin (evV rfl) (evV rfl) (shl_bin (Nat.le_trans (Nat.add_le_add hb hm) (by decide)))) rfl) (evV rfl) rfl) rfl)) rfl (show 2 ≤ lim from le_lim (by decide))) rfl rfl) go_nil)
theorem d3_low (h0 : 0 ≤ a12) (h : ¬ a12 / 2 ^ m = b1) (H : R rest n 1 [.int a12,.int b1,.int m] = some (.tup [.int q,.int r])) : evS (EvR rest n) s3_div3n2n (st3 a12 a3 b b1 b2 m none none) = some (.next,st3 a12 a3 b b1 b2 m (di r) (di q)) :=
  if_no (d3_test h0 (decide_eq_false h)) (go_next (do_asg (v:=.tup [.int q,.int r]) (evE_call (evXs_cons (evV rfl) (evXs_cons (evV rfl) (evXs_cons (evV rfl) rfl))) rfl H) rfl rfl) go_nil)
theorem d3_s4 {ε : Ev} (hm : m ≤ 10000) (hr : 0 ≤ r) (hrb : bits r ≤ 20000) (hq : bits q ≤ 10000) (hb : bits b2 ≤ 10000) (h2 : 0 ≤ a3) (h3 : a3 < 2 ^ m) : evS ε s4_div3n2n (st3 a12 a3 b b1 b2 m (di r) (di q)) = some (.next,st3 a12 a3 b b1 b2 m (di (r * 2 ^ m + a3 - q * b2)) (di q)) :=
  do_asg (evBin (evBin (evBin (evV rfl) (evV rfl) (shl_bin (Nat.le_trans (Nat.add_le_add hrb hm) (by decide)))) (evV rfl) (congrArg some (or_shift hr h2 h3))) (evBin (evV rfl) (evV rfl) (mul_bin (Nat.le_trans (Nat.add_le_add hq hb) (by decide)))) rfl) rfl rfl
theorem d3_end {k : Nat} {r' : Int} (head : evS (EvR rest n) s3_div3n2n (st3 a12 a3 b b1 b2 m none none) = some (.next,st3 a12 a3 b b1 b2 m (di r) (di q))) (s4 : evS (EvR rest n) s4_div3n2n (st3 a12 a3 b b1 b2 m (di r) (di q)) = some (.next,st3 a12 a3 b b1 b2 m (di r') (di q)))
    (hk : k ≤ 2) (h1 : ∀ j : Nat,j < k -> r' + j * b < 0) (h2 : 0 ≤ r' + k * b) : R rest (n + 1) 2 [.int a12,.int a3,.int b,.int b1,.int b2,.int m] = some (.tup [.int (q - k),.int (r' + k * b)]) :=
  run_ret rfl rfl (go_next head (go_next s4 (go_next (do_whl (div3_loop n k 10000 r' q h1 h2 (Nat.lt_of_le_of_lt hk (by decide)))) (go_ret (do_ret (.v (.tup [.int (q - k),.int (r' + k * b)])) (ev_tup (evXs_cons (evV rfl) (evXs_cons (evV rfl) rfl)) rfl (show 2 ≤ lim from le_lim (by decide))) rfl)))))
theorem half_pow (hm : 1 ≤ m) : (2 : Int) ^ m = 2 * 2 ^ (m - 1) := by
  have : (2 : Int) ^ (1 + (m - 1)) = 2 * 2 ^ (m - 1) := pow_add' 1 (m - 1)
  rw [Nat.add_sub_cancel' hm] at this
  exact this
theorem div3_of (hm : 1 ≤ m) (hm2 : m ≤ 10000) (h0 : 0 ≤ a12) (h1 : a12 < b1 * 2 ^ m + b2) (h2 : 0 ≤ a3) (h3 : a3 < 2 ^ m) (h4 : 0 ≤ b2) (h5 : b2 < 2 ^ m) (h6 : 2 ^ (m - 1) ≤ b1) (h7 : b1 < 2 ^ m)
    (H : a12 < b1 * 2 ^ m -> R rest n 1 [.int a12,.int b1,.int m] = some (.tup [.int (a12.fdiv b1),.int (a12.fmod b1)])) :
    R rest (n + 1) 2 [.int a12,.int a3,.int (b1 * 2 ^ m + b2),.int b1,.int b2,.int m] = some (.tup [.int ((a12 * 2 ^ m + a3).fdiv (b1 * 2 ^ m + b2)),.int ((a12 * 2 ^ m + a3).fmod (b1 * 2 ^ m + b2))]) := by
  have hP := pow_pos' m
  have hb1 : 0 < b1 := Int.lt_of_lt_of_le (pow_pos' (m - 1)) h6
  have h6' : (2 : Int) ^ m ≤ 2 * b1 := half_pow hm ▸ Int.mul_le_mul_of_nonneg_left h6 (by decide)
  have hb : 0 < b1 * 2 ^ m + b2 := Int.add_pos_of_pos_of_nonneg (Int.mul_pos hb1 hP) h4
  obtain ⟨q,r,head,Q⟩ : ∃ q r : Int,evS (EvR rest n) s3_div3n2n (st3 a12 a3 (b1 * 2 ^ m + b2) b1 b2 m none none) = some (.next,st3 a12 a3 (b1 * 2 ^ m + b2) b1 b2 m (di r) (di q)) /\ QR a12 a3 b1 b2 (2 ^ m) q r := by
    by_cases hc : a12 / 2 ^ m = b1
    · exact ⟨_,_,d3_top hm2 h0 (Nat.le_trans (bits_le (Int.le_of_lt hb1) h7) hm2) hc,qr_top hP h3 h4 hb1 (hc ▸ Int.ediv_mul_le a12 (Int.ne_of_gt hP)) h1⟩
    · have hlt : a12 < b1 * 2 ^ m := by
        refine Int.not_le.mp fun q => hc (Int.le_antisymm (Int.le_of_lt_add_one (Int.ediv_lt_of_lt_mul hP ?_)) (Int.le_ediv_of_mul_le hP q))
        rw [Int.add_mul,Int.one_mul]
        exact Int.lt_trans h1 (Int.add_lt_add_left h5 _)
      have hH := H hlt
      rw [Int.fdiv_eq_ediv_of_nonneg _ (Int.le_of_lt hb1),Int.fmod_eq_emod_of_nonneg _ (Int.le_of_lt hb1)] at hH
      exact ⟨_,_,d3_low h0 hc hH,qr_low hP h3 h4 hb1 h0 hlt⟩
  have X := qr_fix hP h2 h4 Q h5 h6'
  obtain ⟨k,hk,k1,k2,k3⟩ := fix_k Q.2.2.2.2 X.1
  have f := div3_fix hb X.2 k k2 k3
  rw [f.1,f.2]
  refine d3_end head (d3_s4 hm2 Q.2.1 (Nat.le_trans (bits_le (k:=m + m) Q.2.1 ?_) (Nat.add_le_add hm2 hm2)) (Nat.le_trans (bits_le Q.2.2.1 Q.2.2.2.1) hm2) (Nat.le_trans (bits_le h4 h5) hm2) h2 h3) hk k1 k2
  have e : r ≤ a12 := Q.1 ▸ Int.le_add_of_nonneg_left (Int.mul_nonneg Q.2.2.1 (Int.le_of_lt hb1))
  have e2 : (b1 + 1) * 2 ^ m ≤ 2 ^ m * 2 ^ m := Int.mul_le_mul_of_nonneg_right h7 (Int.le_of_lt hP)
  rw [Int.add_mul,Int.one_mul] at e2
  rw [pow_add']
  exact Int.lt_of_le_of_lt e (Int.lt_trans h1 (Int.lt_of_lt_of_le (Int.add_lt_add_left h5 _) e2))
end
end
end
section
section
variable {rest : List (Str × FnX)}
noncomputable abbrev st2 (a b n : Int) (p h m b1 b2 q1 r q2 : Option D) : Loc := [di a,di b,di n,p,h,m,b1,b2,q1,r,q2]
theorem le2lim : 2 ≤ lim := by decide
theorem mask_bin {x : Int} {m : Nat} (h : 0 ≤ x) : binInt .BitAnd x (2 ^ m - 1) = some (x % 2 ^ m) := congrArg some (and_mask h)
theorem told' {a b q r : Int} (hb : 0 < b) (h0 : 0 ≤ r) (h1 : r < b) (e : q * b + r = a) : a / b = q /\ a % b = r :=
  have f := told hb h0 h1 e
  ⟨(Int.fdiv_eq_ediv_of_nonneg a (Int.le_of_lt hb)).symm.trans f.1,(Int.fmod_eq_emod_of_nonneg a (Int.le_of_lt hb)).symm.trans f.2⟩
theorem step_lt {b P r x : Int} (h3 : 0 ≤ r) (h4 : r < b) (h5 : 0 ≤ x) (h6 : x < P) : 0 ≤ r * P + x /\ r * P + x < b * P :=
  have hP : 0 ≤ P := Int.le_trans h5 (Int.le_of_lt h6)
  ⟨Int.add_nonneg (Int.mul_nonneg h3 hP) h5,Int.lt_of_lt_of_le (Int.add_lt_add_left h6 _) (Int.le_trans (Int.le_of_eq (by rw [Int.add_mul,Int.one_mul])) (Int.mul_le_mul_of_nonneg_right (h4 : r + 1 ≤ b) hP))⟩
theorem two_digits {a b P : Int} (hb : 0 < b) (hP : 0 < P) :
    a / b = a / P / b * P + (a / P % b * P + a % P) / b /\ a % b = (a / P % b * P + a % P) % b :=
  told' hb (Int.emod_nonneg _ (Int.ne_of_gt hb)) (Int.emod_lt_of_pos _ hb) (by
    rw [Int.add_mul,Int.add_assoc,Int.ediv_mul_add_emod,Int.mul_right_comm,<- Int.add_assoc,<- Int.add_mul,Int.ediv_mul_add_emod,Int.ediv_mul_add_emod])
section
variable {n h : Nat} {a b : Int} {x y z u v w p : Option D}
noncomputable abbrev Below (rest : List (Str × FnX)) (n h : Nat) : Prop := ∀ x y : Int,0 ≤ x -> x < y * 2 ^ h -> 2 ^ (h - 1) ≤ y -> y < 2 ^ h -> R rest n 1 [.int x,.int y,.int h] = some (.tup [.int (x.fdiv y),.int (x.fmod y)])
structure Big (h : Nat) (b : Int) : Prop where
  h1 : 1 ≤ h
  h2 : h ≤ 9000
  b0 : 0 < b
  lo : 2 ^ (h - 1) ≤ b / 2 ^ h
  hi : b / 2 ^ h < 2 ^ h
theorem big_of (h1 : 1 ≤ h) (h2 : h ≤ 9000) (hb1 : 2 ^ (2 * h - 1) ≤ b) (hb2 : b < 2 ^ (2 * h)) : Big h b := by
  have e1h : (2 : Int) ^ (2 * h - 1) = 2 ^ (h - 1) * 2 ^ h := by
    rw [<- pow_add',Nat.two_mul,Nat.sub_add_comm h1]
  have hb0 : 0 < b := Int.lt_of_lt_of_le (pow_pos' _) hb1
  rw [e1h] at hb1
  rw [Nat.two_mul,pow_add'] at hb2
  exact ⟨h1,h2,hb0,Int.le_ediv_of_mul_le (pow_pos' h) hb1,Int.ediv_lt_of_lt_mul (pow_pos' h) hb2⟩
theorem Big.call (B : Big h b) (H : Below rest n h) {x y : Int} (hx0 : 0 ≤ x) (hx1 : x < b) (hy0 : 0 ≤ y) (hy1 : y < 2 ^ h) : R rest (n + 1) 2 [.int x,.int y,.int b,.int (b / 2 ^ h),.int (b % 2 ^ h),.int h] = some (.tup [.int ((x * 2 ^ h + y) / b),.int ((x * 2 ^ h + y) % b)]) := by
  have hbB : b / 2 ^ h * 2 ^ h + b % 2 ^ h = b := Int.ediv_mul_add_emod b (2 ^ h)
  have := div3_of (rest:=rest) (n:=n) (a12:=x) (a3:=y) (b1:=b / 2 ^ h) (b2:=b % 2 ^ h) (m:=h) B.h1 (Nat.le_trans B.h2 (by decide)) hx0 (hbB.symm ▸ hx1) hy0 hy1 (Int.emod_nonneg b (Int.ne_of_gt (pow_pos' h))) (Int.emod_lt_of_pos b (pow_pos' h)) B.lo B.hi fun hlt => H x _ hx0 hlt B.lo B.hi
  rw [hbB,Int.fdiv_eq_ediv_of_nonneg _ (Int.le_of_lt B.b0),Int.fmod_eq_emod_of_nonneg _ (Int.le_of_lt B.b0)] at this
  exact this
section
variable {ε : Ev}
theorem g8 : evS ε s8_div2n1n (st2 a b (2 * h : Nat) p x y z u v w none) = some (.next,st2 a b (2 * h : Nat) p (di h) y z u v w none) :=
  do_asg (evBin (evV rfl) rfl ((shr_bin (m:=1) (Int.natCast_nonneg (2 * h))).trans (congrArg some (Int.mul_ediv_cancel_left (h : Int) (show (2 : Int) ≠ 0 by decide))))) rfl rfl
theorem g9 (hh : h ≤ 9000) {m : Int} : evS ε s9_div2n1n (st2 a b m p (di h) y z u v w none) = some (.next,st2 a b m p (di h) (di (2 ^ h - 1)) z u v w none) :=
  do_asg (evBin (evBin rfl (evV rfl) ((shl_bin (Nat.le_trans (Nat.add_le_add_left hh 1) (by decide))).trans (congrArg some (Int.one_mul _)))) rfl rfl) rfl rfl
theorem g10 (hb : 0 ≤ b) {m : Int} : evS ε s10_div2n1n (st2 a b m p (di h) (di (2 ^ h - 1)) z u v w none) = some (.next,st2 a b m p (di h) (di (2 ^ h - 1)) (di (b / 2 ^ h)) (di (b % 2 ^ h)) v w none) :=
  do_asg (v:=.tup [.int (b / 2 ^ h),.int (b % 2 ^ h)]) (ev_tup (evXs_cons (evBin (evV rfl) (evV rfl) (shr_bin hb)) (evXs_cons (evBin (evV rfl) (evV rfl) (mask_bin hb)) rfl)) rfl le2lim) rfl rfl
theorem g15 {q1 q2 r b1 b2 m : Int} (h2 : h ≤ 9000) (hq : 0 ≤ q1) (hq1 : q1 < 2 ^ h) (h0 : 0 ≤ q2) (h1 : q2 < 2 ^ h) : evS ε s15_div2n1n (st2 a b m p (di h) x (di b1) (di b2) (di q1) (di r) (di q2)) = some (.ret (.tup [.int (q1 * 2 ^ h + q2),.int r]),st2 a b m p (di h) x (di b1) (di b2) (di q1) (di r) (di q2)) :=
  do_ret (.v (.tup [.int (q1 * 2 ^ h + q2),.int r])) (ev_tup (evXs_cons (evBin (evBin (evV rfl) (evV rfl) (shl_bin (Nat.le_trans (Nat.add_le_add (Nat.le_trans (bits_le hq hq1) h2) h2) (by decide)))) (evV rfl) (congrArg some (or_shift hq h0 h1))) (evXs_cons (evV rfl) rfl)) rfl le2lim) rfl
end
theorem d2_pre (B : Big h b) (H : Below rest n h) (ha : 0 ≤ a) (hab : a < b * 2 ^ (2 * h)) {t : V}
    (k : ∀ q1 r2 q2,0 ≤ q1 -> q1 < 2 ^ h -> 0 ≤ r2 -> 0 ≤ q2 -> q2 < 2 ^ h -> a / b = q1 * 2 ^ h + q2 -> a % b = r2 -> ∃ ρ',evSs (EvR rest (n + 1)) (.cons s14_div2n1n (.cons s15_div2n1n .nil)) (st2 a b (2 * h : Nat) p (di h) (di (2 ^ h - 1)) (di (b / 2 ^ h)) (di (b % 2 ^ h)) (di q1) (di r2) (di q2)) = some (.ret t,ρ')) :
    ∃ ρ',evSs (EvR rest (n + 1)) (.cons s8_div2n1n (.cons s9_div2n1n (.cons s10_div2n1n (.cons s11_div2n1n (.cons s12_div2n1n (.cons s14_div2n1n (.cons s15_div2n1n .nil))))))) (st2 a b (2 * h : Nat) p none none none none none none none) = some (.ret t,ρ') := by
  have hP := pow_pos' h
  have hP' := Int.ne_of_gt hP
  have hb' := Int.ne_of_gt B.b0
  have ah0 : 0 ≤ a / 2 ^ h := Int.ediv_nonneg ha (Int.le_of_lt hP)
  have hab2 : a / 2 ^ h < b * 2 ^ h := Int.ediv_lt_of_lt_mul hP (by rw [Int.mul_assoc,<- pow_add',<- Nat.two_mul]; exact hab)
  have c1 := B.call H (Int.ediv_nonneg ah0 (Int.le_of_lt hP)) (Int.ediv_lt_of_lt_mul hP hab2) (Int.emod_nonneg (a / 2 ^ h) hP') (Int.emod_lt_of_pos (a / 2 ^ h) hP)
  rw [Int.ediv_mul_add_emod] at c1
  have r0 := Int.emod_nonneg (a / 2 ^ h) hb'
  have r1 := Int.emod_lt_of_pos (a / 2 ^ h) B.b0
  have c2 := B.call H r0 r1 (Int.emod_nonneg a hP') (Int.emod_lt_of_pos a hP)
  have t := step_lt r0 r1 (Int.emod_nonneg a hP') (Int.emod_lt_of_pos a hP)
  have f := two_digits (a:=a) B.b0 hP
  have sh2 : binInt .RShift a ((2 * h : Nat) : Int) = some (a / 2 ^ h / 2 ^ h) := (shr_bin ha).trans (congrArg some (by rw [Nat.two_mul,pow_add',Int.ediv_ediv_of_nonneg (Int.le_of_lt hP)]))
  refine (k _ _ _ (Int.ediv_nonneg ah0 (Int.le_of_lt B.b0)) (Int.ediv_lt_of_lt_mul B.b0 (Int.mul_comm b _ ▸ hab2)) (Int.emod_nonneg _ hb') (Int.ediv_nonneg t.1 (Int.le_of_lt B.b0)) (Int.ediv_lt_of_lt_mul B.b0 (Int.mul_comm b _ ▸ t.2)) f.1 f.2).imp fun ρ' e => go_next g8 (go_next (g9 B.h2) (go_next (g10 (Int.le_of_lt B.b0)) (go_next (do_asg (v:=.tup [.int (a / 2 ^ h / b),.int (a / 2 ^ h % b)]) (evE_call (evXs_cons (evBin (evV rfl) (evV rfl) sh2) (evXs_cons (evBin (evBin (evV rfl) (evV rfl) (shr_bin ha)) (evV rfl) (mask_bin ah0)) rfl)) rfl c1) rfl rfl)
    (go_next (do_asg (v:=.tup [.int ((a / 2 ^ h % b * 2 ^ h + a % 2 ^ h) / b),.int ((a / 2 ^ h % b * 2 ^ h + a % 2 ^ h) % b)]) (evE_call (evXs_cons (evV rfl) (evXs_cons (evBin (evV rfl) (evV rfl) (mask_bin ha)) rfl)) rfl c2) rfl rfl)
    e))))
noncomputable abbrev rest8 : Ss := .cons s8_div2n1n (.cons s9_div2n1n (.cons s10_div2n1n (.cons s11_div2n1n (.cons s12_div2n1n (.cons s14_div2n1n (.cons s15_div2n1n .nil))))))
theorem d2_even (B : Big h b) (H : Below rest n h) (ha : 0 ≤ a) (hab : a < b * 2 ^ (2 * h)) :
    ∃ ρ',evSs (EvR rest (n + 1)) rest8 (st2 a b (2 * h : Nat) (di 0) none none none none none none none) = some (.ret (.tup [.int (a / b),.int (a % b)]),ρ') :=
  d2_pre B H ha hab fun _ _ _ h1 h2 _ h4 h5 f1 f2 => ⟨_,go_next (if_no (tv_var rfl rfl) go_nil) (go_ret (by rw [f1,f2]; exact g15 B.h2 h1 h2 h4 h5))⟩
theorem d2_odd (B : Big h b) (H : Below rest n h) (ha : 0 ≤ a) (hab : a < b * 2 ^ (2 * h)) :
    ∃ ρ',evSs (EvR rest (n + 1)) rest8 (st2 a b (2 * h : Nat) (di 1) none none none none none none none) = some (.ret (.tup [.int (a / b),.int (a % b / 2)]),ρ') :=
  d2_pre B H ha hab fun _ _ _ h1 h2 h3 h4 h5 f1 f2 => ⟨_,go_next (if_yes (tv_var rfl rfl) (go_next (do_aug rfl rfl (shr_bin (m:=1) h3)) go_nil)) (go_ret (by rw [f1,f2]; exact g15 B.h2 h1 h2 h4 h5))⟩
end
section
variable {n h j k : Nat} {a b : Int}
theorem a_bits (h4 : 0 ≤ a) (h5 : a < b * 2 ^ n) (h7 : b < 2 ^ n) : bits a ≤ n + n := bits_le h4 (by
  rw [pow_add']
  exact Int.lt_of_lt_of_le h5 (Int.mul_le_mul_of_nonneg_right (Int.le_of_lt h7) (Int.le_of_lt (pow_pos' n))))
theorem d2_s2 {ε : Ev} (hg : ε.G 0 = some (.int 4000)) (hs : ¬(bits a : Int) - n ≤ 4000) : evS ε s2_div2n1n (st2 a b n none none none none none none none none) = some (.next,st2 a b n none none none none none none none none) :=
  if_no (ev_cmp (evBin (ev_me (evV rfl) rfl rfl) (evV rfl) rfl) (ev_gl hg) (congrArg some (decide_eq_false hs))) go_nil
theorem d2_s3 {ε : Ev} {p : Nat} (hp : n % 2 = p) : evS ε s3_div2n1n (st2 a b n none none none none none none none none) = some (.next,st2 a b n (di p) none none none none none none none) :=
  do_asg (evBin (evV rfl) rfl ((and_1 n).trans (congrArg (fun p : Nat => some (p : Int)) hp))) rfl rfl
theorem twice {x : Int} (h : bits x ≤ 20000) : binInt .LShift x (1 : Int) = some (2 * x) := (shl_bin (m:=1) (Nat.le_trans (Nat.add_le_add_right h 1) (by decide))).trans (congrArg some (Int.mul_comm x 2))
theorem d2_s7 {ε : Ev} (ha : bits a ≤ 20000) (hb : bits b ≤ 20000) (hn : n + 1 = 2 * h) : evS ε s7_div2n1n (st2 a b n (di 1) none none none none none none none) = some (.next,st2 (2 * a) (2 * b) (2 * h : Nat) (di 1) none none none none none none none) :=
  if_yes (tv_var rfl rfl) (go_next (do_aug rfl rfl (twice ha)) (go_next (do_aug rfl rfl (twice hb)) (go_next (do_aug rfl rfl (congrArg (fun n : Nat => some (n : Int)) hn)) go_nil)))
theorem div2_even (h1 : 1 ≤ h) (h2 : h ≤ 9000) (H : Below rest n h) (ha : 0 ≤ a) (hab : a < b * 2 ^ (2 * h)) (hb1 : 2 ^ (2 * h - 1) ≤ b) (hb2 : b < 2 ^ (2 * h)) (hs : ¬(bits a : Int) - (2 * h : Nat) ≤ 4000) :
    R rest (n + 2) 1 [.int a,.int b,.int (2 * h : Nat)] = some (.tup [.int (a / b),.int (a % b)]) :=
  (d2_even (big_of h1 h2 hb1 hb2) H ha hab).elim fun _ e => run_ret rfl rfl (go_next (d2_s2 rfl hs) (go_next (d2_s3 (p:=0) (Nat.mul_mod_right 2 h)) (go_next (if_no (tv_var rfl rfl) go_nil) e)))
theorem div2_odd (hn : k + 1 + 1 = 2 * h) (hp : (k + 1) % 2 = 1) (h9 : k + 1 ≤ 9000) (h1 : 1 ≤ h) (h2 : h ≤ 9000) (H : Below rest n h) (ha : 0 ≤ a) (hab : a < b * 2 ^ (k + 1)) (hb1 : 2 ^ k ≤ b) (hb2 : b < 2 ^ (k + 1)) (hs : ¬(bits a : Int) - (k + 1 : Nat) ≤ 4000) :
    R rest (n + 2) 1 [.int a,.int b,.int (k + 1 : Nat)] = some (.tup [.int (a / b),.int (a % b)]) := by
  have e1 : (2 : Int) ^ (2 * h) = 2 * 2 ^ (k + 1) := by rw [<- hn,Int.pow_succ,Int.mul_comm]
  have e2 : (2 : Int) ^ (2 * h - 1) = 2 * 2 ^ k := by rw [<- hn,Int.mul_comm]; exact Int.pow_succ ..
  have hb0 : 0 ≤ b := Int.le_trans (Int.le_of_lt (pow_pos' k)) hb1
  have hX : 0 ≤ b * 2 ^ (k + 1) := Int.mul_nonneg hb0 (Int.le_of_lt (pow_pos' _))
  obtain ⟨_,e⟩ := d2_odd (rest:=rest) (n:=n) (h:=h) (a:=2 * a) (b:=2 * b) (big_of h1 h2 (e2 ▸ Int.mul_le_mul_of_nonneg_left hb1 (by decide)) (e1 ▸ Int.mul_lt_mul_of_pos_left hb2 (by decide))) H (Int.mul_nonneg (by decide) ha) (by
    rw [e1,Int.mul_assoc,Int.mul_left_comm b]
    exact Int.mul_lt_mul_of_pos_left (Int.lt_of_lt_of_le hab (Int.two_mul (b * 2 ^ (k + 1)) ▸ Int.le_add_of_nonneg_left hX)) (by decide))
  rw [Int.mul_ediv_mul_of_pos _ _ (by decide),Int.mul_emod_mul_of_pos _ _ (by decide),Int.mul_ediv_cancel_left _ (by decide)] at e
  exact run_ret rfl rfl (go_next (d2_s2 rfl hs) (go_next (d2_s3 hp) (go_next (d2_s7 (Nat.le_trans (a_bits ha hab hb2) (Nat.le_trans (Nat.add_le_add h9 h9) (by decide))) (Nat.le_trans (bits_le hb0 hb2) (Nat.le_trans h9 (by decide))) hn) e)))
theorem half_odd {m : Nat} (h : (m + 1) % 2 = 1) : ∃ h,m + 1 + 1 = 2 * h := ⟨(m + 1) / 2 + 1,by lia⟩
theorem half_le {m h K : Nat} (hh : m + 1 + 1 = 2 * h) (h3 : m + 1 ≤ K * 2) (h2 : m + 1 < 9000) : 1 ≤ h /\ h ≤ K /\ h < 9000 := by lia
theorem div2_all : ∀ (k j : Nat) (a b : Int) (n : Nat),1 ≤ n -> n < 9000 -> n ≤ 4000 * 2 ^ k -> 0 ≤ a -> a < b * 2 ^ n -> 2 ^ (n - 1) ≤ b -> b < 2 ^ n ->
    R rest (j + 2 * k + 1) 1 [.int a,.int b,.int n] = some (.tup [.int (a.fdiv b),.int (a.fmod b)]) := by
  intro k
  induction k with
  | zero =>
    intro j a b n h1 h2 h3 h4 h5 h6 h7
    have hb0 : 0 < b := Int.lt_of_lt_of_le (pow_pos' _) h6
    exact div2_small _ a b n (Int.ne_of_gt hb0) (Nat.lt_of_le_of_lt (bits_le (Int.le_of_lt hb0) h7) h2) (Int.sub_right_le_of_le_add (Int.ofNat_le.mpr (Nat.le_trans (a_bits h4 h5 h7) (Nat.add_le_add_right h3 n))))
  | succ k ih =>
    intro j a b n h1 h2 h3 h4 h5 h6 h7
    have hb0 : 0 < b := Int.lt_of_lt_of_le (pow_pos' _) h6
    by_cases hs : (bits a : Int) - n ≤ 4000
    · exact div2_small _ a b n (Int.ne_of_gt hb0) (Nat.lt_of_le_of_lt (bits_le (Int.le_of_lt hb0) h7) h2) hs
    rw [Int.fdiv_eq_ediv_of_nonneg _ (Int.le_of_lt hb0),Int.fmod_eq_emod_of_nonneg _ (Int.le_of_lt hb0)]
    have H : ∀ h : Nat,1 ≤ h -> h ≤ 4000 * 2 ^ k -> h < 9000 -> Below rest (j + 2 * k + 1) h := fun h g1 g2 g3 x y x0 x1 y0 y1 => ih j x y h g1 g3 g2 x0 x1 y0 y1
    rw [Nat.pow_succ,<- Nat.mul_assoc] at h3
    rcases Nat.mod_two_eq_zero_or_one n with hn2 | hn2
    · obtain ⟨h,rfl⟩ : ∃ h,n = 2 * h := ⟨n / 2,(Nat.mul_div_cancel' (Nat.dvd_of_mod_eq_zero hn2)).symm⟩
      have g1 : 1 ≤ h := Nat.pos_of_mul_pos_left h1
      have g3 : h < 9000 := Nat.lt_of_le_of_lt (Nat.le_mul_of_pos_left h (by decide)) h2
      exact div2_even g1 (Nat.le_of_lt g3) (H h g1 (Nat.le_of_mul_le_mul_left (Nat.le_trans h3 (Nat.le_of_eq (Nat.mul_comm _ _))) (by decide)) g3) h4 h5 h6 h7 hs
    · cases n with
      | zero => exact absurd h1 (by decide)
      | succ m =>
        obtain ⟨h,hh⟩ := half_odd hn2
        obtain ⟨g1,g2,g3⟩ := half_le hh h3 h2
        exact div2_odd hh hn2 (Nat.le_of_lt h2) g1 (Nat.le_of_lt g3) (H h g1 g2 g3) h4 h5 h6 h7 hs
end
end
end
section
section
variable {rest : List (Str × FnX)}
theorem run_hand {n i m : Nat} {x : Str} {g : List V -> Option V} {args : List V} (h : (common ++ rest)[i]? = some (x,.hand m g)) (hm : m ≤ n) : R rest (n + 1) i args = g args := by
  exact (congrArg (·.bind fun f : Str × FnX => f.2.run (run (common ++ rest) glob0 flagTab0 n) glob0 flagTab0 n args) h : R rest (n + 1) i args = _).trans (if_pos hm)
noncomputable def dgs (a n k : Nat) : List Int := (List.range k).map fun i => ((a / 2 ^ (n * i) % 2 ^ n : Nat) : Int)
theorem dgs_V (a n k : Nat) : digitsOf a n k = (dgs a n k).map V.int := by simp [digitsOf,dgs]
theorem dgs_len (a n k : Nat) : (dgs a n k).length = k := by simp [dgs]
theorem joinOf_one (n : Nat) (d : Int) : joinOf n [d] = d := by simp [joinOf]
theorem join_dgs (a n : Nat) : ∀ k,joinOf n (dgs a n k) = ((a % 2 ^ (n * k) : Nat) : Int)
  | 0 => by simp [dgs,joinOf,Nat.mod_one]
  | k + 1 => by
    have e : dgs a n (k + 1) = dgs a n k ++ [((a / 2 ^ (n * k) % 2 ^ n : Nat) : Int)] := by simp [dgs,List.range_succ]
    rw [e,joinOf_append,join_dgs a n k,dgs_len,joinOf_one,Nat.mul_add,Nat.mul_one,Nat.pow_add,Nat.mod_mul,Nat.mul_comm (2 ^ (n * k))]
    push_cast
    rfl
theorem dgs_mem {a n k : Nat} {d : Int} (h : d ∈ dgs a n k) : 0 ≤ d /\ d < 2 ^ n := by
  obtain ⟨i,_,rfl⟩ := List.mem_map.mp h
  exact ⟨Int.natCast_nonneg _,pow_cast n ▸ Int.ofNat_lt.mpr (Nat.mod_lt (a / 2 ^ (n * i)) (Nat.two_pow_pos n))⟩
theorem allInts_ints : ∀ ns : List Int,allInts (ns.map V.int) = some ns
  | [] => rfl
  | n :: r => congrArg (Option.map (n :: ·)) (allInts_ints r)
noncomputable def dvL (P b : Int) : Int -> List Int -> List Int
  | _,[] => []
  | r,x :: l => (r * P + x) / b :: dvL P b ((r * P + x) % b) l
noncomputable def dvR (P b : Int) : Int -> List Int -> Int
  | r,[] => r
  | r,x :: l => dvR P b ((r * P + x) % b) l
theorem dv_len (P b : Int) : ∀ (l : List Int) (r : Int),(dvL P b r l).length = l.length
  | [],_ => rfl
  | x :: l,r => congrArg (· + 1) (dv_len P b l _)
section
variable {P b : Int} (hb : 0 < b)
include hb
theorem dv_one {r x : Int} (h3 : 0 ≤ r) (h4 : r < b) (hx : 0 ≤ x /\ x < P) : 0 ≤ r * P + x /\ r * P + x < b * P :=
  have hP : 0 ≤ P := Int.le_trans hx.1 (Int.le_of_lt hx.2)
  ⟨Int.add_nonneg (Int.mul_nonneg h3 hP) hx.1,Int.lt_of_lt_of_le (Int.add_lt_add_left hx.2 _) (Int.le_trans (Int.le_of_eq (by rw [Int.add_mul,Int.one_mul])) (Int.mul_le_mul_of_nonneg_right (h4 : r + 1 ≤ b) hP))⟩
theorem dv_lt : ∀ (l : List Int) (r : Int),0 ≤ r -> r < b -> 0 ≤ dvR P b r l /\ dvR P b r l < b
  | [],_,h1,h2 => ⟨h1,h2⟩
  | _ :: l,_,_,_ => dv_lt l _ (Int.emod_nonneg _ (Int.ne_of_gt hb)) (Int.emod_lt_of_pos _ hb)
theorem dv_q : ∀ (l : List Int) (r : Int),(∀ x ∈ l,0 ≤ x /\ x < P) -> 0 ≤ r -> r < b -> ∀ q ∈ dvL P b r l,0 ≤ q /\ q < P
  | [],_,_,_,_ => List.forall_mem_nil _
  | x :: l,r,hx,h1,h2 =>
    have k := dv_one hb h1 h2 (hx x List.mem_cons_self)
    List.forall_mem_cons.mpr ⟨⟨Int.ediv_nonneg k.1 (Int.le_of_lt hb),Int.ediv_lt_of_lt_mul hb (Int.lt_of_lt_of_le k.2 (Int.le_of_eq (Int.mul_comm _ _)))⟩,dv_q l _ (fun y hy => hx y (List.mem_cons_of_mem _ hy)) (Int.emod_nonneg _ (Int.ne_of_gt hb)) (Int.emod_lt_of_pos _ hb)⟩
end
theorem dv_alg {J q T b R K x r P r1 : Int} (ih : J * b + R = K + r1 * T) (e : b * q + r1 = r * P + x) : (J + q * T) * b + R = K + x * T + r * (T * P) := by
  have h : r * P * T + x * T = q * b * T + r1 * T := by rw [<- Int.add_mul,<- e,Int.add_mul,Int.mul_comm b q]
  rw [Int.add_mul,Int.mul_right_comm,Int.add_right_comm,ih,Int.mul_comm T P,<- Int.mul_assoc,Int.add_assoc,Int.add_assoc,Int.add_comm (x * T),h,Int.add_comm (r1 * T)]
theorem dv_sum (n : Nat) (b : Int) : ∀ (l : List Int) (r : Int),joinOf n (dvL (2 ^ n) b r l).reverse * b + dvR (2 ^ n) b r l = joinOf n l.reverse + r * 2 ^ (n * l.length)
  | [],r => by
    show 0 * b + r = 0 + r * 2 ^ (n * 0)
    rw [Int.zero_mul,Nat.mul_zero,Int.pow_zero,Int.mul_one]
  | x :: l,r => by
    refine Eq.trans (b:=joinOf n ((r * 2 ^ n + x) / b :: dvL (2 ^ n) b ((r * 2 ^ n + x) % b) l).reverse * b + dvR (2 ^ n) b ((r * 2 ^ n + x) % b) l) rfl ?_
    rw [List.reverse_cons,List.reverse_cons,joinOf_append,joinOf_append,joinOf_one,joinOf_one,List.length_reverse,List.length_reverse,dv_len,List.length_cons,Nat.mul_succ,pow_add']
    exact dv_alg (dv_sum n b l _) (Int.mul_ediv_add_emod (r * 2 ^ n + x) b)
noncomputable abbrev stP (a b n : Int) (ds : List V) (r : Int) (qs : D) (d q qd : Option D) : Loc := [di a,di b,di n,some (.v (.list ds)),di r,some qs,d,q,qd]
noncomputable abbrev bodyP (ε : Ev) : V -> Loc -> Option (Fl × Loc) := fun v ρ => (bindT (.n 6) v ρ).bind fun ρ' => evSs ε (.cons s4_divmod_pos (.cons (.app 5 (.var 8)) .nil)) ρ'
section
variable {ε : Ev} {a b n r x q r1 y : Int} {ds qs : List V} {d qd z : Option D}
theorem pos_step (hs : binInt .LShift r n = some y) (hc : ε.F 1 [.int (y + x),.int b,.int n] = some (.tup [.int q,.int r1])) (hl : qs.length ≤ lim) : bodyP ε (.int x) (stP a b n ds r (.o 5 qs) d z qd) = some (.next,stP a b n ds r1 (.o 5 (qs ++ [.int q])) (di x) z (di q)) :=
  go_next (do_asg (v:=.tup [.int q,.int r1]) (evE_call (evXs_cons (evBin (evBin (evV rfl) (evV rfl) hs) (evV rfl) rfl) (evXs_cons (evV rfl) (evXs_cons (evV rfl) rfl))) rfl hc) rfl rfl) (go_next (do_app (evV rfl) rfl rfl hl) go_nil)
end
theorem pos_loop {j : Nat} {a b : Int} {n : Nat} (h1 : 1 ≤ n) (h2 : n < 9000) (h6 : 2 ^ (n - 1) ≤ b) (h7 : b < 2 ^ n) (ds : List V) : ∀ (l : List Int) (qs : List V) (r : Int) (d qd : Option D),(∀ x ∈ l,0 ≤ x /\ x < 2 ^ n) -> qs.length + l.length ≤ 1000 -> 0 ≤ r -> r < b ->
    ∃ d' qd',forL (bodyP (EvR rest (j + 5))) (l.map V.int) (stP a b n ds r (.o 5 qs) d none qd) = some (.next,stP a b n ds (dvR (2 ^ n) b r l) (.o 5 (qs ++ (dvL (2 ^ n) b r l).map V.int)) d' none qd')
  | [],qs,r,d,qd,_,_,_,_ => ⟨d,qd,congrArg (fun q => some (Fl.next,stP a b n ds r (.o 5 q) d none qd)) (List.append_nil qs).symm⟩
  | x :: l,qs,r,d,qd,hx,hlen,h3,h4 => by
    have hb0 : 0 < b := Int.lt_of_lt_of_le (pow_pos' _) h6
    have k := dv_one hb0 h3 h4 (hx x List.mem_cons_self)
    have hc := div2_all (rest:=rest) 2 j (r * 2 ^ n + x) b n h1 h2 (Nat.le_trans (Nat.le_of_lt h2) (by decide)) k.1 k.2 h6 h7
    rw [Int.fdiv_eq_ediv_of_nonneg _ (Int.le_of_lt hb0),Int.fmod_eq_emod_of_nonneg _ (Int.le_of_lt hb0)] at hc
    obtain ⟨d',qd',e⟩ := pos_loop h1 h2 h6 h7 ds l (qs ++ [.int ((r * 2 ^ n + x) / b)]) ((r * 2 ^ n + x) % b) (di x) (di ((r * 2 ^ n + x) / b)) (fun y hy => hx y (List.mem_cons_of_mem _ hy)) (Nat.le_trans (Nat.le_of_eq ((congrArg (· + l.length) List.length_append).trans ((Nat.add_assoc _ 1 _).trans (congrArg (qs.length + ·) (Nat.add_comm 1 _))))) hlen) (Int.emod_nonneg _ (Int.ne_of_gt hb0)) (Int.emod_lt_of_pos _ hb0)
    refine ⟨d',qd',(for_go (pos_step (shl_bin ?_) hc (Nat.le_trans (Nat.le_of_add_right_le hlen) (le_lim (by decide))))).trans (e.trans (congrArg (fun q => some (Fl.next,stP a b n ds _ (.o 5 q) d' none qd')) (List.append_cons qs _ _).symm))⟩
    exact Nat.le_trans (Nat.add_le_add (bits_le h3 (Int.lt_trans h4 h7)) (Nat.le_refl n)) (Nat.le_trans (Nat.add_le_add (Nat.le_of_lt h2) (Nat.le_of_lt h2)) (by decide))
theorem digs {x n : Nat} (hn : 1 ≤ n) (h : x ≤ 100 * n) : (x + n - 1) / n ≤ 1000 /\ x ≤ n * ((x + n - 1) / n) :=
  ⟨Nat.div_le_of_le_mul (Nat.le_trans (Nat.sub_le _ _) (Nat.le_trans (Nat.add_le_add_right h n) (Nat.le_trans (Nat.le_of_eq (Nat.succ_mul 100 n).symm) (Nat.le_trans (Nat.mul_le_mul_right n (by decide : 101 ≤ 1000)) (Nat.le_of_eq (Nat.mul_comm 1000 n)))))),
    Nat.le_of_add_le_add_right (Nat.le_of_pred_lt (Nat.lt_of_lt_of_eq (Nat.lt_mul_div_succ (x + n - 1) hn) (Nat.mul_succ _ _)))⟩
section
variable {j n A : Nat} {a b r q : Int} {ds qs : List V} {d qd : Option D}
theorem pos_walk (h1 : bits b = n) (h2 : R rest (j + 35) 3 [.int a,.int n] = some (.list ds)) (hl : ds.length ≤ lim) (h3 : forL (bodyP (EvR rest (j + 35))) ds.reverse (stP a b n ds 0 (.o 5 []) none none none) = some (.next,stP a b n ds r (.o 5 qs) d none qd)) (hq : qs.length ≤ lim)
    (h4 : R rest (j + 35) 4 [.list qs.reverse,.int n] = some (.int q)) : R rest (j + 36) 5 [.int a,.int b] = some (.tup [.int q,.int r]) :=
  run_ret rfl rfl (go_next (ρ' := [di a,di b,di n,none,none,none,none,none,none]) (do_asg (v:=.int n) (ev_me (evV rfl) rfl (congrArg (fun n : Nat => some (D.v (.int n))) h1)) rfl rfl)
    (go_next (do_asg (evE_call (evXs_cons (evV rfl) (evXs_cons (evV rfl) rfl)) rfl h2) rfl rfl) (go_next (do_asg (d:=.v (.int 0)) rfl rfl rfl) (go_next (do_own (ev_lst rfl rfl (Nat.zero_le _)) (show 5 < 9 by decide))
    (go_next (do_for rfl (evI_rev (evV rfl) hl) h3) (go_next (do_rvs rfl hq) (go_next (do_fz rfl) (go_next (do_asg (evE_call (evXs_cons (evV rfl) (evXs_cons (evV rfl) rfl)) rfl h4) rfl rfl)
    (go_ret (do_ret (.v (.tup [.int q,.int r])) (ev_tup (evXs_cons (evV rfl) (evXs_cons (evV rfl) rfl)) rfl le2lim) rfl))))))))))
theorem pos_i2d (h1 : 1 ≤ n) (h2 : n < 9000) (h3 : bits (A : Int) ≤ 100 * n) : R rest (j + 35) 3 [.int A,.int n] = some (.list ((dgs A n ((bits (A : Int) + n - 1) / n)).map V.int)) :=
  (run_hand rfl (Nat.le_trans (by decide : 30 ≤ 34) (Nat.le_add_left 34 j))).trans ((if_pos ⟨Int.natCast_nonneg A,Int.ofNat_lt.mpr h1,Int.ofNat_le.mpr (Nat.le_trans (Nat.le_of_lt h2) (by decide)),Nat.le_trans h3 (Nat.le_trans (Nat.mul_le_mul_left 100 (Nat.le_of_lt h2)) (by decide)),(digs h1 h3).1⟩).trans (congrArg (fun l => some (V.list l)) (dgs_V A n _)))
theorem pos_d2i {l : List Int} (h1 : 1 ≤ n) (h2 : n < 9000) (hl : l.length ≤ 1000) (h : ∀ q ∈ l,0 ≤ q /\ q < 2 ^ n) : R rest (j + 35) 4 [.list (l.map V.int),.int n] = some (.int (joinOf n l)) :=
  (run_hand rfl (Nat.le_trans (by decide : 30 ≤ 34) (Nat.le_add_left 34 j))).trans (bindK (allInts_ints l) (if_pos ⟨Int.ofNat_lt.mpr h1,Int.ofNat_le.mpr (Nat.le_trans (Nat.le_of_lt h2) (by decide)),hl,List.all_eq_true.mpr fun q hq => decide_eq_true (Nat.le_trans (bits_le (h q hq).1 (h q hq).2) (Nat.le_trans (Nat.le_of_lt h2) (by decide)))⟩))
theorem pos_eq (ha : 0 ≤ a) (hb : 0 < b) (hbb : bits b < 9000) (hab : bits a ≤ 100 * bits b) :
    R rest (j + 36) 5 [.int a,.int b] = some (.tup [.int (a.fdiv b),.int (a.fmod b)]) := by
  obtain ⟨n,hn⟩ : ∃ n,bits b = n := ⟨_,rfl⟩
  obtain ⟨h6,h1⟩ := bits_ge hb hn
  have h7 := bits_lt (Nat.le_of_eq hn)
  rw [hn] at hbb hab
  obtain ⟨A,rfl⟩ := Int.eq_ofNat_of_zero_le ha
  have hi := pos_i2d (rest:=rest) (j:=j) h1 hbb hab
  have hk := digs h1 hab
  generalize (bits (A : Int) + n - 1) / n = k at hi hk
  have hA : A % 2 ^ (n * k) = A := Nat.mod_eq_of_lt (intBits_le_iff.mp hk.2)
  have hm : ∀ x ∈ (dgs A n k).reverse,0 ≤ x /\ x < 2 ^ n := fun x hx => dgs_mem (List.mem_reverse.mp hx)
  have hl : (dgs A n k).reverse.length ≤ 1000 := Nat.le_trans (Nat.le_of_eq (List.length_reverse.trans (dgs_len A n k))) hk.1
  obtain ⟨d,qd,e1⟩ := pos_loop (rest:=rest) (j:=j + 30) (a:=A) h1 hbb h6 h7 ((dgs A n k).map V.int) (dgs A n k).reverse [] 0 none none hm (Nat.le_trans (Nat.le_of_eq (Nat.zero_add _)) hl) (Int.le_refl 0) hb
  rw [List.nil_append,List.map_reverse] at e1
  have e2 := dv_lt (P:=2 ^ n) hb (dgs A n k).reverse 0 (Int.le_refl 0) hb
  have e6 := dv_sum n b (dgs A n k).reverse 0
  rw [List.reverse_reverse,join_dgs,hA,Int.zero_mul,Int.add_zero] at e6
  have f := told hb e2.1 e2.2 e6
  have hq : (dvL (2 ^ n) b 0 (dgs A n k).reverse).length ≤ 1000 := Nat.le_trans (Nat.le_of_eq (dv_len ..)) hl
  have hd := pos_d2i (rest:=rest) (j:=j) (l:=(dvL (2 ^ n) b 0 (dgs A n k).reverse).reverse) h1 hbb (Nat.le_trans (Nat.le_of_eq List.length_reverse) hq) fun q h => dv_q hb _ 0 hm (Int.le_refl 0) hb q (List.mem_reverse.mp h)
  rw [List.map_reverse] at hd
  rw [f.1,f.2]
  exact pos_walk hn hi (map_lim (Nat.le_trans (Nat.le_of_eq (dgs_len A n k)) (Nat.le_trans hk.1 (le_lim (by decide))))) e1 (map_lim (Nat.le_trans hq (le_lim (by decide)))) hd
end
theorem fmod_neg_of (a b : Int) : a.fdiv b = (-a).fdiv (-b) /\ a.fmod b = -((-a).fmod (-b)) := by
  rw [Int.neg_fdiv_neg,Int.neg_fmod_neg,Int.neg_neg]
  exact ⟨rfl,rfl⟩
theorem fdiv_not {a b : Int} (hb : 0 < b) : -(((-a - 1).fdiv b)) - 1 = a.fdiv b /\ b + (-((-a - 1).fmod b) - 1) = a.fmod b := by
  have h1 := Int.mul_ediv_add_emod (-a - 1) b
  have h2 := Int.emod_nonneg (-a - 1) (Int.ne_of_gt hb)
  have h3 := Int.emod_lt_of_pos (-a - 1) hb
  rw [Int.fdiv_eq_ediv_of_nonneg _ (Int.le_of_lt hb),Int.fmod_eq_emod_of_nonneg (-a - 1) (Int.le_of_lt hb)]
  generalize (-a - 1) / b = q at *
  generalize (-a - 1) % b = r at *
  have f := told (a:=a) (q:=-q - 1) (r:=b + (-r - 1)) hb (by lia) (by lia) (by
    rw [Int.sub_mul,Int.neg_mul,Int.mul_comm q b,Int.one_mul]
    generalize b * q = z at *
    lia)
  exact ⟨f.1.symm,f.2.symm⟩
noncomputable abbrev stI (a b : Int) (q r : Option D) : Loc := [di a,di b,q,r]
theorem bits_not : ∀ {a : Int},a < 0 -> bits (-a - 1) ≤ bits a
  | .negSucc k,_ => intBits_le_of_natAbs (by
    show ((k : Int) + 1 - 1).natAbs ≤ k + 1
    rw [Int.add_sub_cancel]
    exact Nat.le_succ k) (Nat.le_refl _)
  | .ofNat k,h => absurd h (Int.not_lt.mpr (Int.natCast_nonneg k))
theorem bits_neg (a : Int) : bits (-a) = bits a :=
  Nat.le_antisymm (intBits_le_of_natAbs (Nat.le_of_eq (Int.natAbs_neg a)) (Nat.le_refl _)) (intBits_le_of_natAbs (Nat.le_of_eq (Int.natAbs_neg a).symm) (Nat.le_refl _))
theorem bitNot_eq (a : Int) : Builtin.bitNot a = -a - 1 := by first | rfl | (unfold Builtin.bitNot; lia)
section
variable {ε : Ev} {n : Nat} {a b q r : Int} {v : V} {x y : Option D} {z : X} {ρ : Loc}
theorem ev_inv {i : Int} (h : evE ε z ρ = some (.v (.int i))) : evE ε (.inv z) ρ = some (.v (.int (-i - 1))) :=
  (bindK h (congrArg (fun i => some (D.v (.int i))) (bitNot_eq _)) : evE ε (.inv z) ρ = _)
theorem i_t1 (hb : b ≠ 0) : evT ε (.cmp .Eq (.var 1) (.lit (.int 0))) (stI a b x y) = some false := ev_cmp (evV rfl) rfl (congrArg some (beq_eq_false_iff_ne.mpr hb))
theorem i_t2 (hb : ¬b < 0) : evT ε (.cmp .Lt (.var 1) (.lit (.int 0))) (stI a b x y) = some false := ev_cmp (evV rfl) rfl (congrArg some (decide_eq_false hb))
theorem i_t3 {t : Bool} (h : decide (a < 0) = t) : evT ε (.cmp .Lt (.var 0) (.lit (.int 0))) (stI a b x y) = some t := ev_cmp (evV rfl) rfl (congrArg some h)
theorem i_pos (hb : 0 < b) (ha : 0 ≤ a) (h : R rest n 5 [.int a,.int b] = some v) : R rest (n + 1) 6 [.int a,.int b] = some v :=
  run_ret rfl rfl (go_ret (if_no (i_t1 (Int.ne_of_gt hb)) (go_ret (if_no (i_t2 (Int.not_lt.mpr (Int.le_of_lt hb))) (go_ret (if_no (i_t3 (decide_eq_false (Int.not_lt.mpr ha))) (go_ret (do_ret (.v v) (evE_call (evXs_cons (evV rfl) (evXs_cons (evV rfl) rfl)) rfl h) rfl))))))))
theorem i_not (hb : 0 < b) (ha : a < 0) (h : R rest n 6 [.int (-a - 1),.int b] = some (.tup [.int q,.int r])) : R rest (n + 1) 6 [.int a,.int b] = some (.tup [.int (-q - 1),.int (b + (-r - 1))]) :=
  run_ret rfl rfl (go_ret (if_no (i_t1 (Int.ne_of_gt hb)) (go_ret (if_no (i_t2 (Int.not_lt.mpr (Int.le_of_lt hb))) (go_ret (if_yes (i_t3 (decide_eq_true ha)) (go_next (ρ' := stI a b (di q) (di r)) (do_asg (v:=.tup [.int q,.int r]) (evE_call (evXs_cons (ev_inv (evV rfl)) (evXs_cons (evV rfl) rfl)) rfl h) rfl rfl)
    (go_ret (do_ret (.v (.tup [.int (-q - 1),.int (b + (-r - 1))])) (ev_tup (evXs_cons (ev_inv (evV rfl)) (evXs_cons (evBin (evV rfl) (ev_inv (evV rfl)) rfl) rfl)) rfl le2lim) rfl)))))))))
theorem i_neg (hb : b < 0) (h : R rest n 6 [.int (-a),.int (-b)] = some (.tup [.int q,.int r])) : R rest (n + 1) 6 [.int a,.int b] = some (.tup [.int q,.int (-r)]) :=
  run_ret rfl rfl (go_ret (if_no (i_t1 (Int.ne_of_lt hb)) (go_ret (if_yes (ev_cmp (evV rfl) rfl (congrArg some (decide_eq_true hb))) (go_next (ρ' := stI a b (di q) (di r)) (do_asg (v:=.tup [.int q,.int r]) (evE_call (evXs_cons (ev_neg (evV rfl)) (evXs_cons (ev_neg (evV rfl)) rfl)) rfl h) rfl rfl)
    (go_ret (do_ret (.v (.tup [.int q,.int (-r)])) (ev_tup (evXs_cons (evV rfl) (evXs_cons (ev_neg (evV rfl)) rfl)) rfl le2lim) rfl)))))))
end
theorem divmod_pos_b {j : Nat} {a b : Int} (hb : 0 < b) (hbb : bits b < 9000) (hab : bits a ≤ 100 * bits b) :
    R rest (j + 38) 6 [.int a,.int b] = some (.tup [.int (a.fdiv b),.int (a.fmod b)]) := by
  by_cases ha : 0 ≤ a
  · exact i_pos hb ha (pos_eq (j:=j + 1) ha hb hbb hab)
  · have ha := Int.lt_of_not_ge ha
    have f := fdiv_not (a:=a) hb
    rw [<- f.1,<- f.2]
    have h0 : 0 ≤ -a - 1 := Int.sub_nonneg_of_le (Int.neg_pos_of_neg ha)
    exact i_not hb ha (i_pos hb h0 (pos_eq (j:=j) h0 hb hbb (Nat.le_trans (bits_not ha) hab)))
theorem divmod_eq {j : Nat} {a b : Int} (hb : b ≠ 0) (hbb : bits b < 9000) (hab : bits a ≤ 100 * bits b) :
    R rest (j + 40) 6 [.int a,.int b] = some (.tup [.int (a.fdiv b),.int (a.fmod b)]) := by
  by_cases hp : 0 < b
  · exact divmod_pos_b (j:=j + 2) hp hbb hab
  · have hn : b < 0 := (Int.lt_trichotomy b 0).resolve_right fun q => q.elim hb hp
    have f := fmod_neg_of a b
    rw [f.1,f.2]
    exact i_neg hn (divmod_pos_b (j:=j + 1) (Int.neg_pos_of_neg hn) ((bits_neg b).symm ▸ hbb) (by rw [bits_neg,bits_neg]; exact hab))
end
end
section
open PySem.StrLaws PySem.Builtin.Str
noncomputable abbrev mk (l : List Nat) : Str := ⟨l.toArray⟩
theorem mk_len (l : List Nat) : (mk l).length = l.length := by simp [Str.length]
theorem mk_app (a b : List Nat) : mk a ++ mk b = mk (a ++ b) := by
  apply Str.ext'
  rw [Str.cps_append]
  simp
theorem mk_inj {a b : List Nat} (h : mk a = mk b) : a = b := by
  have := congrArg (fun x : Str => x.cps.toList) h
  simpa using this
theorem mk_of (x : Str) : x = mk x.cps.toList := by cases x; simp
theorem mk_ne {a b : List Nat} (h : a ≠ b) : (mk a == mk b) = false := by
  rw [beq_eq_false_iff_ne]
  exact fun q => h (mk_inj q)
theorem at_iff {l y : List Nat} {hi k : Nat} : StrLaws.At (mk l) (mk y) hi k ↔ k + y.length ≤ hi /\ y <+: l.drop k := by
  unfold StrLaws.At
  rw [mk_len,subAt_eq,beq_iff_eq,mk_len,List.prefix_iff_eq_take]
  constructor
  · rintro ⟨h1,h2⟩; exact ⟨h1,by simpa using h2.symm⟩
  · rintro ⟨h1,h2⟩; exact ⟨h1,by simpa using h2.symm⟩
theorem find4_none {x y : Str} {i j : Nat} (h : occurrences x y i j 1 = []) : find4 x y i j = -1 := by
  unfold find4
  rw [h]
theorem find4_some {x y : Str} {i j a : Nat} {arr : Array Nat} (h : occurrences x y i j 1 = arr.toList) (h0 : arr[0]? = some a) : find4 x y i j = a := by
  unfold find4
  rw [h]
  rw [<- Array.getElem?_toList] at h0
  cases q : arr.toList with
  | nil => rw [q] at h0; cases h0
  | cons b t => rw [q] at h0; exact congrArg Int.ofNat (Option.some.inj h0)
theorem in_range {i j k : Nat} (h1 : i ≤ k) (h2 : k ≤ j) : k ∈ List.range' i (j + 1 - i) :=
  List.mem_range'_1.mpr ⟨h1,Nat.lt_of_lt_of_eq (Nat.lt_succ_of_le h2) (Nat.add_sub_cancel' (Nat.le_succ_of_le (Nat.le_trans h1 h2))).symm⟩
theorem find4_spec (l y : List Nat) (i j : Nat) :
    (find4 (mk l) (mk y) i j = -1 /\ ∀ k,i ≤ k -> ¬ StrLaws.At (mk l) (mk y) j k) ∨ ∃ k : Nat,find4 (mk l) (mk y) i j = (k : Int) /\ i ≤ k /\ StrLaws.At (mk l) (mk y) j k /\ ∀ m,i ≤ m -> m < k -> ¬ StrLaws.At (mk l) (mk y) j m :=
  have hO := occ_eq (mk l) (mk y) i j 1
  (occ_first (mk l) (mk y) j 1 (Nat.le_refl _) (List.range' i (j + 1 - i)) i fun k hk => (List.mem_range'_1.mp hk).1).imp
    (fun h => ⟨find4_none (hO.trans (congrArg Array.toList h.1)),fun k hk hA => h.2 k (in_range hk (Nat.le_of_add_right_le hA.1)) hA⟩)
    fun h => h.elim fun _ h => h.elim fun a h => h.elim fun _ h => ⟨a,find4_some hO h.2.1,(range'_split_from h.1).1,h.2.2.1,fun m h1 h2 => h.2.2.2 m ((range'_split_from h.1).2 m h1 h2)⟩
theorem find4_at {l y : List Nat} {i j k : Nat} (h1 : i ≤ k) (h2 : StrLaws.At (mk l) (mk y) j k) (h3 : ∀ m,i ≤ m -> m < k -> ¬ StrLaws.At (mk l) (mk y) j m) : find4 (mk l) (mk y) i j = (k : Int) := by
  rcases find4_spec l y i j with ⟨e,hn⟩ | ⟨k',e,a1,a2,a3⟩
  · exact absurd h2 (hn k h1)
  · rw [e]
    rcases Nat.lt_trichotomy k k' with q | q | q
    · exact absurd h2 (a3 k h1 q)
    · rw [q]
    · exact absurd a2 (h3 k' a1 q)
theorem find4_no {l y : List Nat} {i j : Nat} (h : ∀ k,i ≤ k -> ¬ StrLaws.At (mk l) (mk y) j k) : find4 (mk l) (mk y) i j = -1 := by
  rcases find4_spec l y i j with ⟨e,hn⟩ | ⟨k',e,a1,a2,a3⟩
  · exact e
  · exact absurd a2 (h k' a1)
theorem find4_skip {l y : List Nat} {i i' j : Nat} (hi : i ≤ i') (h : ∀ k,i ≤ k -> k < i' -> ¬ StrLaws.At (mk l) (mk y) j k) : find4 (mk l) (mk y) i j = find4 (mk l) (mk y) i' j := by
  rcases find4_spec l y i' j with ⟨e,hn⟩ | ⟨k',e,a1,a2,a3⟩
  · rw [e]
    refine find4_no fun k hk => ?_
    by_cases q : k < i'
    · exact h k hk q
    · exact hn k (by lia)
  · rw [e]
    refine find4_at (by lia) a2 fun m h1 h2 => ?_
    by_cases q : m < i'
    · exact h m h1 q
    · exact a3 m (by lia) h2
theorem find4_nil {l : List Nat} {i j : Nat} (h : i ≤ j) : find4 (mk l) (mk []) i j = (i : Int) :=
  find4_at (Nat.le_refl _) (at_iff.mpr ⟨by simpa using h,List.nil_prefix⟩) fun m h1 h2 => by lia
theorem starts_iff (l y : List Nat) : Txt.startswith (mk l) (mk y) = decide (y <+: l) := by
  unfold Txt.startswith
  rw [subAt_eq,mk_len,mk_len,Bool.eq_iff_iff,Bool.and_eq_true,decide_eq_true_eq,decide_eq_true_eq,beq_iff_eq,Nat.zero_add]
  show (_ /\ (l.drop 0).take y.length = y) ↔ _
  rw [List.drop_zero]
  exact ⟨fun h => List.prefix_iff_eq_take.mpr h.2.symm,fun h => ⟨h.length_le,(List.prefix_iff_eq_take.mp h).symm⟩⟩
theorem ends_iff (l y : List Nat) : Txt.endswith (mk l) (mk y) = decide (y <:+ l) := by
  unfold Txt.endswith
  rw [subAt_eq,mk_len,mk_len,Bool.eq_iff_iff,Bool.and_eq_true,decide_eq_true_eq,decide_eq_true_eq,beq_iff_eq,Nat.zero_add]
  show (_ /\ (l.drop (l.length - y.length)).take y.length = y) ↔ _
  have q (h : y.length ≤ l.length) : (l.drop (l.length - y.length)).take y.length = l.drop (l.length - y.length) := List.take_of_length_le (by rw [List.length_drop,Nat.sub_sub_self h]; exact Nat.le_refl _)
  exact ⟨fun h => List.suffix_iff_eq_drop.mpr ((q h.1).symm.trans h.2).symm,fun h => ⟨h.length_le,(q h.length_le).trans (List.suffix_iff_eq_drop.mp h).symm⟩⟩
noncomputable abbrev dots : List Nat := [46,46,46]
theorem dots_str : ("..." : Str) = mk dots := by rw [Str.ofString_eq_toList]; rfl
noncomputable def join3 : List (List Nat) -> List Nat
  | [] => []
  | [p] => p
  | p :: q :: r => p ++ dots ++ join3 (q :: r)
theorem drop_le {x p z : List Nat} {b : Nat} (h : x.drop b = p ++ z) (hu : 0 < p.length) : b + p.length ≤ x.length := by
  have := congrArg List.length h
  rw [List.length_drop,List.length_append] at this
  have h1 : p.length ≤ x.length - b := this ▸ Nat.le_add_right _ _
  exact Nat.add_le_of_le_sub' (Nat.le_of_lt (Nat.lt_of_sub_pos (Nat.lt_of_lt_of_le hu h1))) h1
theorem contains_dots {l : List Nat} : Txt.contains (mk l) (mk dots) = true ↔ ∃ k,dots <+: l.drop k := by
  unfold Txt.contains
  rw [found_iff]
  constructor
  · rintro ⟨i,h1,h2⟩
    exact ⟨i,(at_iff.mp ⟨h1,h2⟩).2⟩
  · rintro ⟨k,t,ht⟩
    have := (at_iff (hi:=l.length)).mpr ⟨drop_le ht.symm (show 0 < 3 by decide),t,ht⟩
    rw [<- mk_len l] at this
    exact ⟨k,this⟩
theorem contains_no {l : List Nat} (h : 46 ∉ l) : Txt.contains (mk l) (mk dots) = false := by
  cases q : Txt.contains (mk l) (mk dots) with
  | false => rfl
  | true =>
    obtain ⟨k,hk⟩ := contains_dots.mp q
    exact absurd (List.mem_of_mem_drop (hk.subset (List.mem_cons_self))) h
theorem contains_join {p q : List Nat} {r : List (List Nat)} : Txt.contains (mk (join3 (p :: q :: r))) (mk dots) = true := by
  refine contains_dots.mpr ⟨p.length,?_⟩
  rw [join3,List.append_assoc,List.drop_left]
  exact List.prefix_append _ _
noncomputable def joinS (y : List Nat) : List (List Nat) -> List Nat
  | [] => []
  | [p] => p
  | p :: q :: r => p ++ y ++ joinS y (q :: r)
noncomputable def FreeP (c : Nat) (y : List Nat) : List (List Nat) -> Prop
  | [] => False
  | [p] => ∀ k,¬ (c :: y) <+: p.drop k
  | p :: q :: r => c ∉ p /\ FreeP c y (q :: r)
section
variable {x p z y : List Nat} {a b u c : Nat}
theorem sub_tail (hx : x.drop a = p) : strSub (mk x) a (mk x).length = mk p := by
  rw [mk_of (strSub _ _ _),strSub_toList]
  refine congrArg mk ?_
  show (x.toArray.toList.drop a).take _ = p
  rw [List.toList_toArray,mk_len,List.take_of_length_le (Nat.le_of_eq List.length_drop),hx]
theorem sub_mid (hx : x.drop a = p ++ z) : strSub (mk x) a (a + p.length) = mk p := by
  rw [mk_of (strSub _ _ _),strSub_toList]
  refine congrArg mk ?_
  show (x.toArray.toList.drop a).take _ = p
  rw [List.toList_toArray,hx,Nat.add_sub_cancel_left,List.take_left]
theorem no_early (hx : x.drop a = p ++ z) (hc : c ∉ p) (h1 : a ≤ u) (h2 : u < a + p.length) : ¬ (c :: y) <+: x.drop u := fun ⟨t,ht⟩ => by
  have e1 : (x.drop u)[0]? = some c := ht ▸ rfl
  rw [List.getElem?_drop,Nat.add_zero] at e1
  have e2 : (x.drop a)[u - a]? = x[u]? := by rw [List.getElem?_drop,Nat.add_sub_cancel' h1]
  rw [hx,List.getElem?_append_left (Nat.sub_lt_left_of_lt_add h1 h2),e1] at e2
  exact hc (List.mem_of_getElem? e2)
end
theorem parts_gen {x : List Nat} {c : Nat} {y : List Nat} : ∀ (ps : List (List Nat)) (a : Nat) (cuts : List Nat) (f : Nat),FreeP c y ps -> x.drop a = joinS (c :: y) ps -> ChainG (mk x) (mk (c :: y)) x.length a cuts f -> (∀ k,f ≤ k -> ¬ StrLaws.At (mk x) (mk (c :: y)) x.length k) ->
    partsFrom (mk x) (c :: y).length a cuts = ps.map mk
  | [],_,_,_,h,_,_,_ => h.elim
  | [p],a,[],f,hp,hx,hc,hn => congrArg (fun s => [s]) (sub_tail hx)
  | [p],a,u :: r,f,hp,hx,hc,hn => absurd ((at_iff.mp hc.2.1).2) (by
      rw [<- Nat.add_sub_cancel' hc.1,<- List.drop_drop,hx]
      exact hp _)
  | p :: q :: r,a,cuts,f,hp,hx,hc,hn => by
    have hx' : x.drop a = p ++ ((c :: y) ++ joinS (c :: y) (q :: r)) := hx.trans (List.append_assoc ..)
    have hx2 : x.drop (a + p.length) = (c :: y) ++ joinS (c :: y) (q :: r) := by rw [<- List.drop_drop,hx',List.drop_left]
    have hAt : StrLaws.At (mk x) (mk (c :: y)) x.length (a + p.length) := at_iff.mpr ⟨drop_le hx2 (Nat.succ_pos _),hx2 ▸ List.prefix_append _ _⟩
    cases cuts with
    | nil => exact absurd hAt (hn _ (Nat.le_trans (Nat.le_of_eq hc) (Nat.le_add_right a _)))
    | cons u r' =>
      have hce : u = a + p.length := (Nat.lt_trichotomy u (a + p.length)).elim (fun z => absurd (at_iff.mp hc.2.1).2 (no_early hx' hp.1 hc.1 z)) fun z => z.elim id fun z => absurd hAt (hc.2.2.1 _ (Nat.le_add_right a _) z)
      have h4 := hc.2.2.2
      rw [mk_len,hce] at h4
      exact hce ▸ congr (congrArg List.cons (sub_mid hx')) (parts_gen (q :: r) _ r' f hp.2 (by rw [<- List.drop_drop,hx2,List.drop_left]) h4 hn)
theorem free_dots : ∀ {ps : List (List Nat)},ps ≠ [] -> (∀ p ∈ ps,46 ∉ p) -> FreeP 46 [46,46] ps
  | [],h,_ => absurd rfl h
  | [p],_,h => fun k q => h p List.mem_cons_self (List.mem_of_mem_drop (q.subset List.mem_cons_self))
  | p :: q :: r,_,h => ⟨h p List.mem_cons_self,free_dots (List.cons_ne_nil _ _) fun x hx => h x (List.mem_cons_of_mem _ hx)⟩
theorem join3_eq : ∀ ps : List (List Nat),join3 ps = joinS dots ps
  | [] => rfl
  | [p] => rfl
  | p :: q :: r => congrArg (p ++ dots ++ ·) (join3_eq (q :: r))
theorem kind_pos (x : Str) : 1 ≤ Builtin.Str.strKind x := by
  unfold Builtin.Str.strKind
  split
  · exact Nat.le_refl 1
  · split <;> decide
theorem ite_both {c : Prop} [Decidable c] {α : Type} {a b z : α} (h1 : c -> a = z) (h2 : ¬c -> b = z) : ite c a b = z :=
  if h : c then (if_pos h).trans (h1 h) else (if_neg h).trans (h2 h)
theorem split_join3 {ps : List (List Nat)} (h1 : ps ≠ []) (h2 : ∀ p ∈ ps,46 ∉ p) : Txt.split (mk (join3 ps)) (mk dots) = ps.map mk := by
  obtain ⟨f,hc,hn⟩ := occ_tight (mk (join3 ps)) (mk dots) (by decide)
  rw [mk_len] at hc hn
  have key := parts_gen (x:=join3 ps) ps 0 _ f (free_dots h1 h2) (join3_eq ps) hc hn
  have hone : occurrences (mk (join3 ps)) (mk dots) 0 (join3 ps).length ((join3 ps).length + 1) = [] -> [mk (join3 ps)] = ps.map mk := fun e => by
    rw [e] at key
    exact (congrArg (fun s => [s]) (sub_whole _).symm).trans key
  unfold Txt.split
  rw [mk_len,mk_len]
  refine ite_both (fun h => hone ?_) fun _ => ite_both (fun h => hone (List.isEmpty_iff.mp h)) fun _ => (partsBetween_eq ..).trans key
  rw [Bool.or_eq_true,decide_eq_true_eq,decide_eq_true_eq] at h
  have h := h.resolve_right (Nat.not_lt.mpr (Nat.le_trans (Nat.le_of_eq (by decide +kernel)) (kind_pos _)))
  cases q : occurrences (mk (join3 ps)) (mk dots) 0 (join3 ps).length ((join3 ps).length + 1) with
  | nil => rfl
  | cons c r =>
    rw [q] at hc
    exact absurd h (Nat.not_lt.mpr (Nat.le_of_add_left_le (at_iff.mp hc.2.1).1))
end
section
noncomputable def ellGo (got : Str) (e : Nat) : List Str -> Nat -> Bool
  | [],_ => true
  | w :: ws,s => match find4 got w s e with
    | .ofNat k => ellGo got e ws (k + w.length)
    | .negSucc _ => false
noncomputable def ellEnd (got : Str) (ws : List Str) (s : Nat) : Bool := match ws.getLast? with
  | none => false
  | some w => if w.length = 0 then (decide (s ≤ got.length) && ellGo got got.length ws s) else (Txt.endswith got w && (decide (s ≤ got.length - w.length) && ellGo got (got.length - w.length) ws.dropLast s))
noncomputable def ell (got : Str) : List Str -> Bool
  | [] => false
  | w :: r => if w.length = 0 then ellEnd got (w :: r) 0 else Txt.startswith got w && ellEnd got r w.length
theorem find4_le {x y : Str} {i j : Nat} {k : Nat} (h : find4 x y i j = (k : Int)) : i ≤ k /\ k + y.length ≤ j := by
  rw [mk_of x,mk_of y] at h
  rcases find4_spec x.cps.toList y.cps.toList i j with ⟨e,_⟩ | ⟨k',e,a1,a2,_⟩
  · rw [h] at e; lia
  · rw [h] at e
    have : k = k' := by lia
    subst this
    exact ⟨a1,by have := (at_iff.mp a2).1; simpa [Str.length] using this⟩
section
variable {rest : List (Str × FnX)}
noncomputable abbrev stE (want got : Str) (ws w s e : Option D) : Loc := [some (.v (.str want)),some (.v (.str got)),ws,w,s,e]
noncomputable abbrev ds (x : Str) : Option D := some (.v (.str x))
theorem mark_eq (n : Nat) : (EvR rest n).G 1 = some (.str "...") := rfl
theorem truth_str {w : Str} {b : Bool} (hl : w.length ≤ lim) (h : (w.length != 0) = b) : truth (.v (.str w)) = some b := (if_pos hl).trans (congrArg some h)
theorem len0 {n : Nat} (h : n = 0) : (n != 0) = false := by rw [h]; rfl
theorem dec_t {p : Prop} [Decidable p] {b c : Bool} (h : p) (k : b = c) : (decide p && b) = c := by rw [decide_eq_true h,k]; rfl
theorem dec_f {p : Prop} [Decidable p] {b : Bool} (h : ¬p) : (decide p && b) = false := by rw [decide_eq_false h]; rfl
theorem lt_no {a b : Nat} (h : a ≤ b) : decide ((b : Int) < a) = false := decide_eq_false (Int.not_lt.mpr (Int.ofNat_le.mpr h))
theorem lt_yes {a b : Nat} (h : b < a) : decide ((b : Int) < a) = true := decide_eq_true (Int.ofNat_lt.mpr h)
noncomputable abbrev oS (ws : List Str) : Option D := some (.o 2 (ws.map V.str))
noncomputable abbrev fS (ws : List Str) : Option D := some (.v (.list (ws.map V.str)))
noncomputable abbrev bodyE (ε : Ev) : V -> Loc -> Option (Fl × Loc) := fun v ρ => (bindT (.n 3) v ρ).bind fun ρ' => evSs ε (.cons s19_ellipsis_match (.cons s21_ellipsis_match (.cons s22_ellipsis_match .nil))) ρ'
section
variable {ε : Ev} {want got : Str} {x y z w : Option D} {s e : Nat} {a : Str}
theorem e19 (hs : s ≤ got.length) (he : e ≤ got.length) (hg : got.length ≤ lim) : evS ε s19_ellipsis_match (stE want got z (ds a) (di s) (di e)) = some (.next,stE want got z (ds a) (di (find4 got a s e)) (di e)) :=
  do_asg (d:=.v (.int (find4 got a s e))) (ev_me (evV rfl) (evXs_cons (evV rfl) (evXs_cons (evV rfl) (evXs_cons (evV rfl) rfl))) (if_pos ⟨Int.natCast_nonneg s,Int.ofNat_le.mpr hs,Int.natCast_nonneg e,Int.ofNat_le.mpr he,hg⟩)) rfl rfl
theorem e21_no {k : Nat} : evS ε s21_ellipsis_match (stE want got z y (di (Int.ofNat k)) x) = some (.next,stE want got z y (di (Int.ofNat k)) x) := if_no (ev_cmp (evV rfl) (b:=.v (.int (0 : Nat))) rfl (congrArg some (lt_no (Nat.zero_le k)))) go_nil
theorem e21_yes {k : Nat} : evS ε s21_ellipsis_match (stE want got z y (di (Int.negSucc k)) x) = some (.ret (.bool false),stE want got z y (di (Int.negSucc k)) x) := if_yes (ev_cmp (evV rfl) rfl (congrArg some (decide_eq_true (Int.negSucc_lt_zero k)))) (go_ret (do_ret (.v (.bool false)) rfl rfl))
theorem e22 {k : Nat} (h : a.length ≤ lim) : evS ε s22_ellipsis_match (stE want got z (ds a) (di (Int.ofNat k)) x) = some (.next,stE want got z (ds a) (di ((k + a.length : Nat) : Int)) x) := do_aug rfl (ev_lenS (evV rfl) h) rfl
theorem body_go {k : Nat} (hs : s ≤ got.length) (he : e ≤ got.length) (hg : got.length ≤ lim) (h : a.length ≤ lim) (hf : find4 got a s e = .ofNat k) : bodyE ε (.str a) (stE want got z w (di s) (di e)) = some (.next,stE want got z (ds a) (di ((k + a.length : Nat) : Int)) (di e)) :=
  go_next (hf ▸ e19 hs he hg) (go_next e21_no (go_next (e22 h) go_nil))
theorem body_no {k : Nat} (hs : s ≤ got.length) (he : e ≤ got.length) (hg : got.length ≤ lim) (hf : find4 got a s e = .negSucc k) : bodyE ε (.str a) (stE want got z w (di s) (di e)) = some (.ret (.bool false),stE want got z (ds a) (di (Int.negSucc k)) (di e)) :=
  go_next (hf ▸ e19 hs he hg) (go_ret e21_yes)
theorem ellGo_go {ws : List Str} {k : Nat} (hf : find4 got a s e = .ofNat k) : ellGo got e (a :: ws) s = ellGo got e ws (k + a.length) := by
  show (match find4 got a s e with | .ofNat k => ellGo got e ws (k + a.length) | .negSucc _ => false) = _
  rw [hf]
theorem ellGo_no {ws : List Str} {k : Nat} (hf : find4 got a s e = .negSucc k) : ellGo got e (a :: ws) s = false := by
  show (match find4 got a s e with | .ofNat k => ellGo got e ws (k + a.length) | .negSucc _ => false) = _
  rw [hf]
noncomputable abbrev LoopE (ε : Ev) (want got : Str) (z w : Option D) (e : Nat) (ws : List Str) (s : Nat) : Prop :=
  (ellGo got e ws s = true /\ ∃ w' s',forL (bodyE ε) (ws.map V.str) (stE want got z w (di s) (di e)) = some (.next,stE want got z w' (di s') (di e))) ∨
  (ellGo got e ws s = false /\ ∃ ρ',forL (bodyE ε) (ws.map V.str) (stE want got z w (di s) (di e)) = some (.ret (.bool false),ρ'))
theorem loop_go {ws : List Str} {k : Nat} (hf : find4 got a s e = .ofNat k) (b : bodyE ε (.str a) (stE want got z w (di s) (di e)) = some (.next,stE want got z (ds a) (di ((k + a.length : Nat) : Int)) (di e))) (ih : LoopE ε want got z (ds a) e ws (k + a.length)) : LoopE ε want got z w e (a :: ws) s :=
  ih.imp (fun h => ⟨(ellGo_go hf).trans h.1,h.2.imp fun w' h => h.imp fun s' h => (for_go b).trans h⟩) fun h => ⟨(ellGo_go hf).trans h.1,h.2.imp fun w' h => (for_go b).trans h⟩
theorem ell_loop (hg : got.length ≤ lim) (he : e ≤ got.length) : ∀ (ws : List Str) (s : Nat) (w : Option D),s ≤ e -> (∀ x ∈ ws,x.length ≤ lim) -> LoopE ε want got z w e ws s
  | [],s,w,hs,hx => .inl ⟨rfl,w,(s : Int),rfl⟩
  | a :: ws,s,w,hs,hx => by
    have hl := Nat.le_trans hs he
    cases hf : find4 got a s e with
    | ofNat k => exact loop_go hf (body_go hl he hg (hx a List.mem_cons_self) hf) (ell_loop hg he ws _ (ds a) (find4_le hf).2 fun y hy => hx y (List.mem_cons_of_mem _ hy))
    | negSucc k => exact .inr ⟨ellGo_no hf,_,for_ret (body_no hl he hg hf)⟩
theorem e18_no (h : s ≤ e) : evS ε s18_ellipsis_match (stE want got x y (di s) (di e)) = some (.next,stE want got x y (di s) (di e)) := if_no (ev_cmp (evV rfl) (evV rfl) (congrArg some (lt_no h))) go_nil
theorem e18_yes (h : ¬s ≤ e) : evS ε s18_ellipsis_match (stE want got x y (di s) (di e)) = some (.ret (.bool false),stE want got x y (di s) (di e)) := if_yes (ev_cmp (evV rfl) (evV rfl) (congrArg some (lt_yes (Nat.lt_of_not_le h)))) (go_ret (do_ret (.v (.bool false)) rfl rfl))
noncomputable abbrev FinE (ε : Ev) (want got : Str) (ws : List Str) (w : Option D) (s e : Nat) : Prop :=
  ∃ ρ',evSs ε (.cons s18_ellipsis_match (.cons (.fz 2) (.cons s23_ellipsis_match (.cons s24_ellipsis_match .nil)))) (stE want got (oS ws) w (di s) (di e)) = some (.ret (.bool (decide (s ≤ e) && ellGo got e ws s)),ρ')
theorem ell_fin {ws : List Str} (hg : got.length ≤ lim) (he : e ≤ got.length) (hul : ws.length ≤ lim) (hux : ∀ x ∈ ws,x.length ≤ lim) : FinE ε want got ws w s e := by
  by_cases hse : s ≤ e
  · rcases ell_loop (ε:=ε) (want:=want) (z:=fS ws) hg he ws s w hse hux with ⟨h1,w',s',h3⟩ | ⟨h1,ρ',h3⟩
    · exact ⟨_,go_next (e18_no hse) (go_next (do_fz rfl) (go_next (do_for rfl (evI_var rfl rfl (map_lim hul)) h3) (go_ret (do_ret (.v (.bool true)) rfl (congrArg V.bool (dec_t hse h1).symm)))))⟩
    · exact ⟨ρ',go_next (e18_no hse) (go_next (do_fz rfl) (go_ret (dec_t hse h1 ▸ do_forr rfl (evI_var rfl rfl (map_lim hul)) h3)))⟩
  · exact ⟨_,go_ret (dec_f hse ▸ e18_yes hse)⟩
noncomputable abbrev TailE (ε : Ev) (want got : Str) (ws : List Str) (w : Option D) (s : Nat) : Prop :=
  ∃ ρ',evSs ε (.cons s11_ellipsis_match (.cons s16_ellipsis_match (.cons s18_ellipsis_match (.cons (.fz 2) (.cons s23_ellipsis_match (.cons s24_ellipsis_match .nil)))))) (stE want got (oS ws) w (di s) (di got.length)) = some (.ret (.bool (ellEnd got ws s)),ρ')
theorem e11 {ws : List Str} (hl : ws.length ≤ lim) (h : ws.getLast? = some a) : evS ε s11_ellipsis_match (stE want got (oS ws) w x y) = some (.next,stE want got (oS ws) (ds a) x y) :=
  do_asg (ev_sub (evV rfl) (ev_neg (i:=1) rfl) (sub_last rfl rfl (map_lim hl) (List.getLast?_map.trans (congrArg (Option.map V.str) h)))) rfl rfl
theorem tw_no (h : a.length = 0) (hl : a.length ≤ lim) : evT ε (.var 3) (stE want got z (ds a) x y) = some false := tv_var rfl (truth_str hl (len0 h))
theorem tw_yes (h : a.length ≠ 0) (hl : a.length ≤ lim) : evT ε (.var 3) (stE want got z (ds a) x y) = some true := tv_var rfl (truth_str hl (bne_iff_ne.mpr h))
theorem e12 (h : a.length ≤ e) (hl : a.length ≤ lim) : evS ε s12_ellipsis_match (stE want got z (ds a) x (di e)) = some (.next,stE want got z (ds a) x (di ((e - a.length : Nat) : Int))) :=
  do_aug rfl (ev_lenS (evV rfl) hl) (congrArg some (Int.ofNat_sub h).symm)
theorem e13 {ws : List Str} (h : 0 < ws.length) (hl : ws.length ≤ lim) : evS ε s13_ellipsis_match (stE want got (oS ws) w x y) = some (.next,stE want got (oS ws.dropLast) w x y) :=
  (do_del (ev_neg (i:=1) rfl) rfl (place_last (Nat.lt_of_lt_of_eq h (List.length_map _).symm)) (map_lim hl)).trans (congrArg (fun l => some (Fl.next,stE want got (some (.o 2 l)) w x y)) (List.eraseIdx_length_sub_one.trans (List.map_dropLast ..).symm))
theorem e15_no (h : Txt.endswith got a = false) : evS ε s15_ellipsis_match (stE want got z (ds a) x y) = some (.ret (.bool false),stE want got z (ds a) x y) :=
  if_no (tv_me (evV rfl) (evXs_cons (evV rfl) rfl) rfl (congrArg some h)) (go_ret (do_ret (.v (.bool false)) rfl rfl))
theorem e15_yes {ws : List Str} (h : Txt.endswith got a = true) (h1 : a.length ≤ e) (hw : a.length ≤ lim) (h0 : 0 < ws.length) (hl : ws.length ≤ lim) : evS ε s15_ellipsis_match (stE want got (oS ws) (ds a) x (di e)) = some (.next,stE want got (oS ws.dropLast) (ds a) x (di ((e - a.length : Nat) : Int))) :=
  if_yes (tv_me (evV rfl) (evXs_cons (evV rfl) rfl) rfl (congrArg some h)) (go_next (e12 h1 hw) (go_next (e13 h0 hl) go_nil))
theorem ends_le {got a : Str} (h : Txt.endswith got a = true) : a.length ≤ got.length := by
  rw [mk_of got,mk_of a,ends_iff] at h
  exact (of_decide_eq_true h).length_le
theorem ellEnd_eq {ws : List Str} (h : ws.getLast? = some a) : ellEnd got ws s = if a.length = 0 then (decide (s ≤ got.length) && ellGo got got.length ws s) else (Txt.endswith got a && (decide (s ≤ got.length - a.length) && ellGo got (got.length - a.length) ws.dropLast s)) := by
  unfold ellEnd
  rw [h]
theorem ex_ret {q : Option (Fl × Loc)} {b c : Bool} (E : b = c) (h : ∃ ρ',q = some (.ret (.bool c),ρ')) : ∃ ρ',q = some (.ret (.bool b),ρ') := E ▸ h
theorem is_bool {b c : Bool} (E : b = c) : some (V.bool c) = some (V.bool b) := E ▸ rfl
theorem ell_tail {ws : List Str} (hg : got.length ≤ lim) (hl : ws.length ≤ lim) (hx : ∀ x ∈ ws,x.length ≤ lim) (hne : ws ≠ []) : TailE ε want got ws w s := by
  obtain ⟨a,ha⟩ : ∃ a,ws.getLast? = some a := ⟨_,List.getLast?_eq_some_getLast hne⟩
  have hwl := hx a (List.mem_of_getLast? ha)
  have E := ellEnd_eq (got:=got) (s:=s) ha
  by_cases h0 : a.length = 0
  · rw [if_pos h0] at E
    obtain ⟨ρ',h3⟩ := ell_fin (ε:=ε) (want:=want) (w:=ds a) (s:=s) hg (Nat.le_refl _) hl hx
    exact ex_ret E ⟨ρ',go_next (e11 hl ha) (go_next (if_no (tw_no h0 hwl) go_nil) h3)⟩
  · rw [if_neg h0] at E
    cases hends : Txt.endswith got a with
    | false =>
      rw [hends,Bool.false_and] at E
      exact ex_ret E ⟨_,go_next (e11 hl ha) (go_ret (if_yes (tw_yes h0 hwl) (go_ret (e15_no hends))))⟩
    | true =>
      rw [hends,Bool.true_and] at E
      obtain ⟨ρ',h3⟩ := ell_fin (ε:=ε) (want:=want) (ws:=ws.dropLast) (w:=ds a) (s:=s) (e:=got.length - a.length) hg (Nat.sub_le _ _) (Nat.le_trans (Nat.le_of_eq List.length_dropLast) (Nat.le_trans (Nat.sub_le _ _) hl)) (fun x hx' => hx x (List.dropLast_subset _ hx'))
      exact ex_ret E ⟨ρ',go_next (e11 hl ha) (go_next (if_yes (tw_yes h0 hwl) (go_next (e15_yes hends (ends_le hends) hwl (List.length_pos_iff.mpr hne) hl) go_nil)) (h3))⟩
end
theorem test2 {n : Nat} {want : Str} {x : Loc} {b c : Bool} (h : Txt.contains want "..." = b) (hc : (!b) = c) : evT (EvR rest n) (.cmp .NotIn (.gl 1) (.var 0)) (some (.v (.str want)) :: x) = some c :=
  ev_cmp (ev_gl (mark_eq n)) (evV rfl) (congrArg some ((congrArg (!·) h).trans hc))
theorem ell_no {n : Nat} {want got : Str} (h : Txt.contains want "..." = false) : R rest (n + 1) 7 [.str want,.str got] = some (.bool (want == got)) :=
  run_ret rfl rfl (go_ret (if_yes (test2 h rfl) (go_ret (do_ret (.v (.bool (want == got))) (evB_cmp (evV rfl) (evV rfl) rfl) rfl))))
section
variable {n : Nat} {want got : Str} {w : Str} {r : List Str} {x y z : Option D}
theorem e3 {ws : List Str} (hs : Txt.split want "..." = ws) (hw : want.length ≤ lim) : evS (EvR rest n) s3_ellipsis_match (stE want got none x y z) = some (.next,stE want got (oS ws) x y z) :=
  do_own (ev_me (evV rfl) (evXs_cons (ev_gl (mark_eq n)) rfl) ((if_pos ⟨by rw [dots_str,mk_len]; decide,hw⟩).trans (congrArg (fun l => some (D.t (l.map V.str))) hs))) (show 2 < 6 by decide)
theorem e4 {ws : List Str} (h2 : 2 ≤ ws.length) (hl : ws.length ≤ lim) : evS (EvR rest n) s4_ellipsis_match (stE want got (oS ws) x y z) = some (.next,stE want got (oS ws) x y z) :=
  do_ast (ev_cmp (ev_lenI (evV rfl) rfl rfl (map_lim hl)) rfl (congrArg some (decide_eq_true (Int.ofNat_le.mpr (Nat.le_trans h2 (Nat.le_of_eq (List.length_map _).symm))))))
theorem e5 (hg : got.length ≤ lim) : evS (EvR rest n) s5_ellipsis_match (stE want got x y none none) = some (.next,stE want got x y (di 0) (di got.length)) :=
  do_asg (v:=.tup [.int 0,.int got.length]) (ev_tup (evXs_cons (a:=.v (.int 0)) rfl (evXs_cons (ev_lenS (evV rfl) hg) rfl)) rfl (show 2 ≤ lim from le_lim (by decide))) rfl rfl
theorem e6 (hl : (w :: r).length ≤ lim) : evS (EvR rest n) s6_ellipsis_match (stE want got (oS (w :: r)) x y z) = some (.next,stE want got (oS (w :: r)) (ds w) y z) :=
  do_asg (ev_sub (evV rfl) (b:=.v (.int (0 : Nat))) rfl (sub_at rfl rfl (map_lim hl) rfl)) rfl rfl
theorem e9_no (h : Txt.startswith got w = false) : evS (EvR rest n) s9_ellipsis_match (stE want got z (ds w) x y) = some (.ret (.bool false),stE want got z (ds w) x y) :=
  if_no (tv_me (evV rfl) (evXs_cons (evV rfl) rfl) rfl (congrArg some h)) (go_ret (do_ret (.v (.bool false)) rfl rfl))
theorem e9_yes (h : Txt.startswith got w = true) (hl : (w :: r).length ≤ lim) (hw : w.length ≤ lim) : evS (EvR rest n) s9_ellipsis_match (stE want got (oS (w :: r)) (ds w) x y) = some (.next,stE want got (oS r) (ds w) (di w.length) y) :=
  if_yes (tv_me (evV rfl) (evXs_cons (evV rfl) rfl) rfl (congrArg some h)) (go_next (do_asg (ev_lenS (evV rfl) hw) rfl rfl) (go_next (do_del (k:=(0 : Nat)) (j:=0) rfl rfl (place_nat (Nat.zero_lt_succ _)) (map_lim hl)) go_nil))
theorem ell_start {ρ' : Loc} {b : Bool} (h : Txt.contains want "..." = true) (hs : Txt.split want "..." = w :: r) (h2 : 2 ≤ (w :: r).length) (hl : (w :: r).length ≤ lim) (hw : want.length ≤ lim) (hg : got.length ≤ lim)
    (k : evSs (EvR rest n) (.cons s10_ellipsis_match (.cons s11_ellipsis_match (.cons s16_ellipsis_match (.cons s18_ellipsis_match (.cons (.fz 2) (.cons s23_ellipsis_match (.cons s24_ellipsis_match .nil))))))) (stE want got (oS (w :: r)) (ds w) (di 0) (di got.length)) = some (.ret (.bool b),ρ')) :
    R rest (n + 1) 7 [.str want,.str got] = some (.bool b) :=
  run_ret rfl rfl (go_next (if_no (test2 h rfl) go_nil) (go_next (e3 hs hw) (go_next (e4 h2 hl) (go_next (e5 hg) (go_next (e6 hl) k)))))
end
theorem ell_yes {n : Nat} {want got : Str} {ws : List Str} (h : Txt.contains want "..." = true) (hs : Txt.split want "..." = ws) (h2 : 2 ≤ ws.length) (hl : ws.length ≤ lim) (hw : want.length ≤ lim) (hg : got.length ≤ lim) (hx : ∀ x ∈ ws,x.length ≤ lim) :
    R rest (n + 1) 7 [.str want,.str got] = some (.bool (ell got ws)) := by
  cases ws with
  | nil => cases h2
  | cons w r =>
    have E : ell got (w :: r) = if w.length = 0 then ellEnd got (w :: r) 0 else Txt.startswith got w && ellEnd got r w.length := rfl
    have hwl := hx w List.mem_cons_self
    by_cases h0 : w.length = 0
    · rw [if_pos h0] at E
      obtain ⟨ρ',h3⟩ := ell_tail (ε:=EvR rest n) (want:=want) (w:=ds w) (s:=0) hg hl hx (List.cons_ne_nil _ _)
      exact (ell_start h hs h2 hl hw hg (go_next (if_no (tw_no h0 hwl) go_nil) h3)).trans (is_bool E)
    · rw [if_neg h0] at E
      cases hst : Txt.startswith got w with
      | false =>
        rw [hst,Bool.false_and] at E
        exact (ell_start h hs h2 hl hw hg (go_ret (if_yes (tw_yes h0 hwl) (go_ret (e9_no hst))))).trans (is_bool E)
      | true =>
        rw [hst,Bool.true_and] at E
        obtain ⟨ρ',h3⟩ := ell_tail (ε:=EvR rest n) (want:=want) (w:=ds w) (s:=w.length) hg (Nat.le_of_succ_le hl) (fun x hx' => hx x (List.mem_cons_of_mem _ hx')) (List.length_pos_iff.mp (Nat.le_of_succ_le_succ h2))
        exact (ell_start h hs h2 hl hw hg (go_next (if_yes (tw_yes h0 hwl) (go_next (e9_yes hst hl hwl) go_nil)) h3)).trans (is_bool E)
end
end
section
open PySem.StrLaws PySem.Builtin.Str
noncomputable abbrev tok (w : List Nat) : List Nat := 32 :: (w ++ [44])
noncomputable def flat : List (List Nat) -> List Nat
  | [] => []
  | w :: r => tok w ++ flat r
noncomputable abbrev Good (w : List Nat) : Prop := 32 ∉ w /\ 44 ∉ w /\ 46 ∉ w
theorem flat_app (a b : List (List Nat)) : flat (a ++ b) = flat a ++ flat b := by
  induction a with
  | nil => rfl
  | cons w r ih => rw [List.cons_append,flat,flat,ih,List.append_assoc]
theorem flat_free {ws : List (List Nat)} (h : ∀ w ∈ ws,Good w) : 46 ∉ flat ws := by
  induction ws with
  | nil => simp [flat]
  | cons w r ih =>
    rw [flat]
    have := (h w List.mem_cons_self).2.2
    have := ih fun v hv => h v (List.mem_cons_of_mem _ hv)
    simp [*]
theorem tok_free {w : List Nat} (h : Good w) : 46 ∉ tok w := by
  have := h.2.2
  simp [this]
theorem app44 : ∀ {a b r s : List Nat},44 ∉ a -> 44 ∉ b -> a ++ [44] ++ r = b ++ [44] ++ s -> a = b /\ r = s
  | [],[],r,s,_,_,h => by simpa using h
  | [],y :: b,r,s,_,hb,h => by
    simp at h
    exact absurd h.1.symm (fun q => hb (by rw [q]; exact List.mem_cons_self))
  | x :: a,[],r,s,ha,_,h => by
    simp at h
    exact absurd h.1 (fun q => ha (by rw [q]; exact List.mem_cons_self))
  | x :: a,y :: b,r,s,ha,hb,h => by
    simp only [List.cons_append,List.cons.injEq] at h
    obtain ⟨h1,h2⟩ := app44 (fun q => ha (List.mem_cons_of_mem _ q)) (fun q => hb (List.mem_cons_of_mem _ q)) h.2
    exact ⟨by rw [h.1,h1],h2⟩
theorem tok_prefix {w v r : List Nat} (hw : Good w) (hv : Good v) : tok w <+: tok v ++ r ↔ w = v := by
  constructor
  · rintro ⟨s,h⟩
    have h' : w ++ [44] ++ s = v ++ [44] ++ r := by simpa using h
    exact (app44 hw.2.1 hv.2.1 h').1
  · rintro rfl
    exact List.prefix_append _ _
theorem flat_prefix : ∀ {a b : List (List Nat)},(∀ w ∈ a,Good w) -> (∀ w ∈ b,Good w) -> (flat a <+: flat b ↔ a <+: b)
  | [],b,_,_ => by simp [flat]
  | w :: a,[],_,_ => by simp [flat]
  | w :: a,v :: b,ha,hb => by
    have hw := ha w List.mem_cons_self
    have hv := hb v List.mem_cons_self
    have ih := flat_prefix (a:=a) (b:=b) (fun x hx => ha x (List.mem_cons_of_mem _ hx)) (fun x hx => hb x (List.mem_cons_of_mem _ hx))
    rw [flat,flat,List.cons_prefix_cons]
    constructor
    · rintro ⟨s,h⟩
      have h' : w ++ [44] ++ (flat a ++ s) = v ++ [44] ++ flat b := by simpa using h
      obtain ⟨h1,h2⟩ := app44 hw.2.1 hv.2.1 h'
      exact ⟨h1,ih.mp ⟨s,h2⟩⟩
    · rintro ⟨rfl,h⟩
      exact (List.prefix_append_right_inj _).mpr (ih.mpr h)
theorem flat_inj {a b : List (List Nat)} (ha : ∀ w ∈ a,Good w) (hb : ∀ w ∈ b,Good w) (h : flat a = flat b) : a = b := by
  have h1 := (flat_prefix ha hb).mp (by rw [h]; exact List.prefix_refl _)
  have h2 := (flat_prefix hb ha).mp (by rw [h]; exact List.prefix_refl _)
  exact h1.eq_of_length (Nat.le_antisymm h1.length_le h2.length_le)
theorem at_start {v r : List Nat} (hv : Good v) {y : List Nat} : ∀ {k : Nat},0 < k -> k < (tok v).length -> ¬ (32 :: y) <+: (tok v ++ r).drop k
  | j + 1,_,hk,⟨t,ht⟩ => by
    have e1 : ((tok v ++ r).drop (j + 1))[0]? = some 32 := ht ▸ rfl
    rw [List.getElem?_drop,Nat.add_zero,List.getElem?_append_left hk] at e1
    exact (List.mem_append.mp (List.mem_of_getElem? (e1 : (v ++ [44])[j]? = some 32))).elim hv.1 (fun q => absurd (List.mem_singleton.mp q) (by decide))
theorem flat_suffix : ∀ {b a : List (List Nat)},a ≠ [] -> (∀ w ∈ a,Good w) -> (∀ w ∈ b,Good w) -> (flat a <:+ flat b ↔ a <:+ b)
  | [],a,hne,_,_ => by
    cases a with
    | nil => exact absurd rfl hne
    | cons w a => simp [flat]
  | v :: b,a,hne,ha,hb => by
    have hv := hb v List.mem_cons_self
    have hb' : ∀ w ∈ b,Good w := fun x hx => hb x (List.mem_cons_of_mem _ hx)
    constructor
    · intro h
      by_cases hl : (flat a).length ≤ (flat b).length
      · have : flat a <:+ flat b := by
          have h2 : flat b <:+ flat (v :: b) := by rw [flat]; exact List.suffix_append _ _
          exact List.suffix_of_suffix_length_le h h2 hl
        exact ((flat_suffix hne ha hb').mp this).trans (List.suffix_cons _ _)
      ·
        obtain ⟨p,hp⟩ := h
        have hpl : p.length < (tok v).length := by
          have := congrArg List.length hp
          rw [flat] at this
          simp only [List.length_append] at this
          lia
        have hd : flat a = (tok v ++ flat b).drop p.length := by
          have := congrArg (List.drop p.length) hp
          rw [List.drop_left] at this
          rw [this,flat]
        obtain ⟨w,a',rfl⟩ : ∃ w a',a = w :: a' := by
          cases a with
          | nil => exact absurd rfl hne
          | cons w a => exact ⟨w,a,rfl⟩
        rcases Nat.eq_zero_or_pos p.length with hp0 | hp0
        · have : flat (w :: a') = flat (v :: b) := by rw [hd,hp0,List.drop_zero,flat]
          rw [flat_inj ha hb this]
          exact List.suffix_refl _
        · exact absurd (by rw [<- hd]; exact List.prefix_append _ _ : (32 :: (w ++ [44])) <+: (tok v ++ flat b).drop p.length) (at_start hv hp0 hpl)
    · rintro ⟨p,hp⟩
      exact ⟨flat p,by rw [<- flat_app,hp]⟩
noncomputable def subB : List (List Nat) -> List (List Nat) -> Bool
  | [],_ => true
  | _ :: _,[] => false
  | t :: ts,g :: gs => if t = g then subB ts gs else subB (t :: ts) gs
section
variable {got x y a : List Nat} {e i i' s k : Nat} {ws : List Str}
theorem ellGo_skip (hi : i ≤ i') (h : ∀ k,i ≤ k -> k < i' -> ¬ StrLaws.At (mk x) (mk y) e k) : ellGo (mk x) e (mk y :: ws) i = ellGo (mk x) e (mk y :: ws) i' := by
  show (match find4 (mk x) (mk y) i e with | .ofNat k => ellGo (mk x) e ws (k + (mk y).length) | .negSucc _ => false) = _
  rw [find4_skip hi h]
  rfl
theorem ell_at (hf : find4 (mk got) (mk a) s e = (k : Int)) : ellGo (mk got) e (mk a :: ws) s = ellGo (mk got) e ws (k + a.length) := ellGo_go hf
theorem ell_stop (hf : find4 (mk got) (mk a) s e = -1) : ellGo (mk got) e (mk a :: ws) s = false := ellGo_no (k:=0) hf
theorem ell_nilw (h : s ≤ e) : ellGo (mk got) e (mk [] :: ws) s = ellGo (mk got) e ws s := ell_at (find4_nil h)
theorem ell_first0 : ell (mk got) (mk [] :: ws) = ellEnd (mk got) (mk [] :: ws) 0 := (if_pos (rfl : (mk []).length = 0) : (if (mk []).length = 0 then ellEnd (mk got) (mk [] :: ws) 0 else Txt.startswith (mk got) (mk []) && ellEnd (mk got) ws (mk []).length) = _)
theorem len_ne (h : a ≠ []) : (mk a).length ≠ 0 := fun q => h (List.length_eq_zero_iff.mp q)
theorem ell_first (h : a ≠ []) : ell (mk got) (mk a :: ws) = (decide (a <+: got) && ellEnd (mk got) ws a.length) :=
  (if_neg (len_ne h)).trans (congrArg (· && ellEnd (mk got) ws a.length) (starts_iff got a))
theorem ellEnd0 (h : ws.getLast? = some (mk [])) (hs : s ≤ got.length) : ellEnd (mk got) ws s = ellGo (mk got) got.length ws s :=
  (ellEnd_eq h).trans ((if_pos rfl).trans (dec_t hs rfl))
theorem ellEnd1 (h : ws.getLast? = some (mk a)) (ha : a ≠ []) : ellEnd (mk got) ws s = (decide (a <:+ got) && (decide (s ≤ got.length - a.length) && ellGo (mk got) (got.length - a.length) ws.dropLast s)) :=
  (ellEnd_eq h).trans ((if_neg (len_ne ha)).trans (congrArg (· && (decide (s ≤ got.length - a.length) && ellGo (mk got) (got.length - a.length) ws.dropLast s)) (ends_iff got a)))
theorem and_dec {p : Prop} [Decidable p] {b : Bool} (h : p -> b = true) : (decide p && b) = decide p := by
  by_cases q : p
  · rw [h q,Bool.and_true]
  · rw [decide_eq_false q]; rfl
end
theorem subB_nil : ∀ gs : List (List Nat),subB [] gs = true
  | [] => rfl
  | _ :: _ => rfl
section
variable {gs : List (List Nat)} {ws : List Str} {g t pre : List Nat} {ts : List (List Nat)}
theorem tok_none : ellGo (mk (pre ++ flat [])) (pre ++ flat []).length (mk (tok t) :: ws) pre.length = false :=
  ell_stop (find4_no fun k hk hA => absurd (Nat.le_trans (at_iff.mp hA).1 (Nat.le_trans (Nat.le_of_eq List.length_append) hk)) (Nat.not_le_of_lt (Nat.lt_add_of_pos_right (Nat.succ_pos _))))
theorem tok_here : ellGo (mk (pre ++ flat (g :: gs))) (pre ++ flat (g :: gs)).length (mk (tok g) :: ws) pre.length = ellGo (mk ((pre ++ tok g) ++ flat gs)) ((pre ++ tok g) ++ flat gs).length ws (pre ++ tok g).length := by
  have e1 : pre ++ flat (g :: gs) = (pre ++ tok g) ++ flat gs := (List.append_assoc ..).symm
  rw [e1,List.length_append (as:=pre) (bs:=tok g)]
  refine ell_at (find4_at (Nat.le_refl _) (at_iff.mpr ⟨?_,?_⟩) fun m a b => absurd b (Nat.not_lt.mpr a))
  · rw [List.length_append,List.length_append]
    exact Nat.le_add_right _ _
  · rw [List.append_assoc,List.drop_left]
    exact List.prefix_append _ _
theorem tok_skip (hgg : Good g) (htt : Good t) (h : t ≠ g) : ellGo (mk (pre ++ flat (g :: gs))) (pre ++ flat (g :: gs)).length (mk (tok t) :: ws) pre.length = ellGo (mk ((pre ++ tok g) ++ flat gs)) ((pre ++ tok g) ++ flat gs).length (mk (tok t) :: ws) (pre ++ tok g).length := by
  have e1 : pre ++ flat (g :: gs) = (pre ++ tok g) ++ flat gs := (List.append_assoc ..).symm
  rw [e1]
  refine ellGo_skip (Nat.le_trans (Nat.le_add_right _ _) (Nat.le_of_eq List.length_append.symm)) fun k h1 h2 hA => ?_
  have h3 := (at_iff.mp hA).2
  obtain ⟨j,rfl⟩ := Nat.exists_eq_add_of_le h1
  rw [<- List.drop_drop,List.append_assoc,List.drop_left] at h3
  cases j with
  | zero => exact h ((tok_prefix htt hgg).mp h3)
  | succ j => exact at_start hgg (Nat.succ_pos j) (Nat.lt_of_add_lt_add_left (Nat.lt_of_lt_of_eq h2 List.length_append)) h3
end
theorem go_toks : ∀ (gs toks : List (List Nat)) (pre : List Nat),(∀ w ∈ gs,Good w) -> (∀ w ∈ toks,Good w) ->
    ellGo (mk (pre ++ flat gs)) (pre ++ flat gs).length (toks.map (fun w => mk (tok w)) ++ [mk []]) pre.length = subB toks gs
  | gs,[],pre,hg,ht => (ell_nilw (Nat.le_trans (Nat.le_add_right _ _) (Nat.le_of_eq List.length_append.symm))).trans (subB_nil gs).symm
  | [],t :: ts,pre,hg,ht => tok_none
  | g :: gs,t :: ts,pre,hg,ht => by
    have hg' : ∀ w ∈ gs,Good w := fun x hx => hg x (List.mem_cons_of_mem _ hx)
    show _ = if t = g then subB ts gs else subB (t :: ts) gs
    by_cases h : t = g
    · rw [if_pos h,h]
      exact tok_here.trans (go_toks gs ts (pre ++ tok g) hg' fun x hx => ht x (List.mem_cons_of_mem _ hx))
    · rw [if_neg h]
      exact (tok_skip (hg g List.mem_cons_self) (ht t List.mem_cons_self) h).trans (go_toks gs (t :: ts) (pre ++ tok g) hg' ht)
theorem ell_A {gs toks : List (List Nat)} (hg : ∀ w ∈ gs,Good w) (ht : ∀ w ∈ toks,Good w) : ell (mk (flat gs)) (mk [] :: (toks.map (fun w => mk (tok w)) ++ [mk []])) = subB toks gs :=
  (ell_first0.trans (ellEnd0 (List.getLast?_concat (l:=mk [] :: toks.map fun w => mk (tok w))) (Nat.zero_le _))).trans ((ell_nilw (Nat.zero_le _)).trans (go_toks gs toks [] hg ht))
theorem ell_D (got : List Nat) : ell (mk got) [mk [],mk []] = true :=
  (ell_first0.trans (ellEnd0 rfl (Nat.zero_le _))).trans ((ell_nilw (Nat.zero_le _)).trans (ell_nilw (Nat.zero_le _)))
theorem ell_nil1 {got : List Nat} {s : Nat} (h : s ≤ got.length) : ellEnd (mk got) [mk []] s = true := (ellEnd0 rfl h).trans (ell_nilw h)
theorem ell_B {got y : List Nat} (hy : y ≠ []) : ell (mk got) [mk y,mk []] = decide (y <+: got) := (ell_first hy).trans (and_dec fun h => ell_nil1 h.length_le)
theorem ell_C {got y : List Nat} (hy : y ≠ []) : ell (mk got) [mk [],mk y] = decide (y <:+ got) :=
  ell_first0.trans ((ellEnd1 rfl hy).trans (and_dec fun h => dec_t (Nat.zero_le _) (ell_nilw (Nat.zero_le _))))
structure Alone (o b d : List Nat) : Prop where
  ob : o = 32 :: b
  od : o = d ++ [44]
  no : 46 ∉ o
  hb : ∀ x,b.head? = some x -> x ≠ 32
  hd : ∀ x,d.getLast? = some x -> x ≠ 44
  len : 3 ≤ o.length
section
variable {o b d : List Nat} (H : Alone o b d)
include H
theorem Alone.bl : b.length = o.length - 1 := by rw [H.ob]; simp
theorem Alone.dl : d.length = o.length - 1 := by rw [H.od]; simp
theorem Alone.bno : 46 ∉ b := fun q => H.no (by rw [H.ob]; exact List.mem_cons_of_mem _ q)
theorem Alone.dno : 46 ∉ d := fun q => H.no (by rw [H.od]; exact List.mem_append_left _ q)
theorem Alone.bne : b ≠ [] := fun q => by have h1 := H.bl; have h2 := H.len; rw [q] at h1; simp at h1; lia
theorem Alone.dne : d ≠ [] := fun q => by have h1 := H.dl; have h2 := H.len; rw [q] at h1; simp at h1; lia
theorem Alone.b_pre : ¬ b <+: o := fun h => by
  cases hb : b with
  | nil => exact H.bne hb
  | cons x r =>
    rw [H.ob,hb,List.cons_prefix_cons] at h
    exact H.hb x (by rw [hb]; rfl) h.1
theorem Alone.d_suf : ¬ d <:+ o := fun h => by
  obtain ⟨x,hx⟩ : ∃ x,d.getLast? = some x := by
    cases q : d.getLast? with
    | none => exact absurd (List.getLast?_eq_none_iff.mp q) H.dne
    | some x => exact ⟨x,rfl⟩
  have h1 : o.getLast? = some 44 := by rw [H.od]; simp
  obtain ⟨p,hp⟩ := h
  rw [<- hp,List.getLast?_append,hx] at h1
  simp at h1
  exact H.hd x hx h1
theorem Alone.one : o ≠ [] := fun q => List.cons_ne_nil _ _ (H.ob.symm.trans q)
theorem alone_w2 : ell (mk o) [mk [32],mk b] = true :=
  (ell_first (List.cons_ne_nil _ _)).trans (dec_t (H.ob ▸ List.prefix_append [32] b) ((ellEnd1 rfl H.bne).trans (dec_t (H.ob ▸ List.suffix_cons _ _) (dec_t (by rw [H.ob]; exact Nat.le_of_eq (Nat.add_sub_cancel_left (n:=b.length) (m:=1)).symm) rfl))))
theorem alone_w4 : ell (mk o) [mk b,mk []] = false := (ell_B H.bne).trans (decide_eq_false H.b_pre)
theorem alone_w5 : ell (mk o) [mk [],mk d] = false := (ell_C H.dne).trans (decide_eq_false H.d_suf)
theorem alone_w6 : ell (mk o) [mk o,mk o] = false := by
  have h : ¬ o.length ≤ o.length - o.length := by
    rw [Nat.sub_self]
    exact Nat.not_le_of_lt (List.length_pos_iff.mpr H.one)
  rw [ell_first H.one,ellEnd1 rfl H.one,dec_f h,Bool.and_false,Bool.and_false]
theorem alone_w7 : ell (mk o) [mk [],mk d,mk b,mk []] = false := by
  have e1 : ell (mk o) [mk [],mk d,mk b,mk []] = ellGo (mk o) o.length [mk d,mk b,mk []] 0 := (ell_first0.trans (ellEnd0 rfl (Nat.zero_le _))).trans (ell_nilw (Nat.zero_le _))
  have e2 : ellGo (mk o) o.length [mk d,mk b,mk []] 0 = ellGo (mk o) o.length [mk b,mk []] (0 + d.length) :=
    ell_at (find4_at (k:=0) (Nat.le_refl _) (at_iff.mpr ⟨Nat.le_trans (Nat.le_of_eq (Nat.zero_add _)) (Nat.le_trans (Nat.le_of_eq H.dl) (Nat.sub_le _ _)),H.od ▸ List.prefix_append d [44]⟩) fun m _ h => absurd h (Nat.not_lt_zero m))
  refine e1.trans (e2.trans (ell_stop (find4_no fun k hk hA => ?_)))
  have h1 := Nat.le_trans (Nat.add_le_add_right hk _) (at_iff.mp hA).1
  have h2 := H.len
  rw [H.dl,H.bl] at h1
  clear hk hA
  generalize o.length = l at h1 h2
  lia
theorem alone_w8 : ell (mk o) [mk [],mk b,mk [32],mk []] = false := by
  have hl : o.length = 1 + b.length := by rw [H.ob]; exact Nat.add_comm _ _
  have e1 : ell (mk o) [mk [],mk b,mk [32],mk []] = ellGo (mk o) o.length [mk b,mk [32],mk []] 0 := (ell_first0.trans (ellEnd0 rfl (Nat.zero_le _))).trans (ell_nilw (Nat.zero_le _))
  have e2 : ellGo (mk o) o.length [mk b,mk [32],mk []] 0 = ellGo (mk o) o.length [mk [32],mk []] (1 + b.length) :=
    ell_at (find4_at (k:=1) (Nat.zero_le _) (at_iff.mpr ⟨Nat.le_of_eq hl.symm,H.ob ▸ List.prefix_refl b⟩) fun m _ h hA => H.b_pre (by
      have q := (at_iff.mp hA).2
      rw [Nat.lt_one_iff.mp h] at q
      exact q))
  exact e1.trans (e2.trans (ell_stop (find4_no fun k hk hA => absurd (Nat.le_trans (at_iff.mp hA).1 (Nat.le_trans (Nat.le_of_eq hl) hk)) (Nat.not_le_of_lt (Nat.lt_succ_self k)))))
end
end
section
open PySem.StrLaws PySem.Builtin.Str
section
variable {rest : List (Str × FnX)}
theorem join3_le {K : Nat} : ∀ {ps : List (List Nat)},(∀ p ∈ ps,p.length ≤ K) -> (join3 ps).length ≤ (K + 3) * ps.length
  | [],_ => Nat.zero_le _
  | [p],h => Nat.le_trans (h p List.mem_cons_self) (Nat.le_trans (Nat.le_add_right K 3) (Nat.le_of_eq (Nat.mul_one _).symm))
  | p :: q :: r,h => by
    show (p ++ dots ++ join3 (q :: r)).length ≤ (K + 3) * ((q :: r).length + 1)
    rw [List.length_append,List.length_append,Nat.mul_succ,Nat.add_comm]
    exact Nat.add_le_add (join3_le fun x hx => h x (List.mem_cons_of_mem _ hx)) (Nat.add_le_add_right (h p List.mem_cons_self) 3)
theorem ell_join {n : Nat} {got : List Nat} {ps : List (List Nat)} {b : Bool} (h2 : 2 ≤ ps.length) (h9 : ps.length ≤ 20) (hp : ∀ p ∈ ps,46 ∉ p /\ p.length ≤ 2000) (hg : got.length ≤ lim) (hb : ell (mk got) (ps.map mk) = b) :
    R rest (n + 1) 7 [.str (mk (join3 ps)),.str (mk got)] = some (.bool b) :=
  match ps,h2 with
  | p :: q :: r,h2 => hb ▸ ell_yes (dots_str.symm ▸ contains_join) (dots_str.symm ▸ split_join3 (List.cons_ne_nil _ _) fun x hx => (hp x hx).1) (Nat.le_trans h2 (Nat.le_of_eq (List.length_map _).symm)) (map_lim (Nat.le_trans h9 (le_lim (by decide))))
      (Nat.le_trans (Nat.le_of_eq (mk_len _)) (Nat.le_trans (join3_le fun x hx => (hp x hx).2) (Nat.le_trans (Nat.mul_le_mul_left 2003 h9) (le_lim (by decide))))) (Nat.le_trans (Nat.le_of_eq (mk_len _)) hg)
      (List.forall_mem_map.mpr fun x hx => Nat.le_trans (Nat.le_of_eq (mk_len _)) (Nat.le_trans (hp x hx).2 (le_lim (by decide))))
theorem ell_plain {n : Nat} {got want : List Nat} (h : 46 ∉ want) : R rest (n + 1) 7 [.str (mk want),.str (mk got)] = some (.bool (mk want == mk got)) :=
  ell_no (by rw [dots_str]; exact contains_no h)
theorem min_cast (k n : Nat) : min (k : Int) (n : Int) = ((min k n : Nat) : Int) :=
  (Nat.le_total k n).elim (fun h => by rw [Nat.min_eq_left h,Int.min_eq_left (Int.ofNat_le.mpr h)]) fun h => by rw [Nat.min_eq_right h,Int.min_eq_right (Int.ofNat_le.mpr h)]
theorem clip_nat (n k : Nat) : clip n (k : Int) = min k n := by
  unfold clip
  rw [if_neg (Int.not_lt.mpr (Int.natCast_nonneg k)),min_cast,Int.max_eq_right (Int.natCast_nonneg _),Int.toNat_natCast]
theorem clip_m1 : ∀ n : Nat,clip n (-1) = n - 1
  | 0 => rfl
  | k + 1 => by
    unfold clip
    rw [if_pos (by decide),show (-1 : Int) + ((k + 1 : Nat) : Int) = (k : Int) from (congrArg (-1 + ·) (Int.add_comm k 1)).trans (Int.neg_add_cancel_left 1 k),min_cast,Int.max_eq_right (Int.natCast_nonneg _),Int.toNat_natCast]
    exact Nat.min_eq_left (Nat.le_succ k)
theorem part_int {i : Int} (h : -(2 ^ 62) ≤ i /\ i ≤ 2 ^ 62) : part (.v (.int i)) = some (some i) := if_pos h
theorem slc_plain {a lo hi : D} {l h : Option Int} (e1 : part lo = some l) (e2 : part hi = some h) : slcD a lo hi (.v .none) = slcF a l h := by
  show (part lo).bind _ = _
  rw [e1]
  show (part hi).bind _ = _
  rw [e2]
  rfl
theorem slc_rev {a st : D} (e : part st = some (some (-1))) : slcD a (.v .none) (.v .none) st = slcR a := by
  show (part st).bind _ = _
  rw [e]
  show (if (-1 : Int) = -1 /\ (none : Option Int) = none /\ (none : Option Int) = none then slcR a else none) = _
  rw [if_pos ⟨rfl,rfl,rfl⟩]
theorem slF_str {x : List Nat} {lo hi : Option Int} {z : List Nat} (hl : x.length ≤ lim) (h : cut x lo hi = z) : slcF (.v (.str (mk x))) lo hi = some (.v (.str (mk z))) :=
  h ▸ if_pos (Nat.le_trans (Nat.le_of_eq (mk_len x)) hl)
theorem sl_01 {x : List Nat} (hl : x.length ≤ lim) : slcD (.v (.str (mk x))) (.v .none) (.v (.int 1)) (.v .none) = some (.v (.str (mk (x.take 1)))) :=
  (slc_plain (l:=none) (h:=some 1) rfl (part_int (by decide))).trans (slF_str hl ((congrArg x.take (clip_nat x.length 1)).trans List.take_eq_take_min.symm))
theorem drop_min {x : List Nat} : (x.drop (min 1 x.length)).take (x.length - min 1 x.length) = x.drop 1 := by
  rw [List.take_of_length_le (Nat.le_of_eq List.length_drop)]
  cases x with
  | nil => rfl
  | cons a r => rw [Nat.min_eq_left (show 1 ≤ (a :: r).length from Nat.succ_pos _)]
theorem sl_1n {x : List Nat} (hl : x.length ≤ lim) : slcD (.v (.str (mk x))) (.v (.int 1)) (.v .none) (.v .none) = some (.v (.str (mk (x.drop 1)))) :=
  (slc_plain (l:=some 1) (h:=none) (part_int (by decide)) rfl).trans (slF_str hl ((congrArg (fun k => (x.drop k).take (x.length - k)) (clip_nat x.length 1)).trans drop_min))
theorem sl_0m {x : List Nat} (hl : x.length ≤ lim) : slcD (.v (.str (mk x))) (.v .none) (.v (.int (-1))) (.v .none) = some (.v (.str (mk (x.take (x.length - 1))))) :=
  (slc_plain (l:=none) (h:=some (-1)) rfl (part_int (by decide))).trans (slF_str hl (congrArg x.take (clip_m1 x.length)))
theorem sl_rev {x : List Nat} (hl : x.length ≤ lim) : slcD (.v (.str (mk x))) (.v .none) (.v .none) (.v (.int (-1))) = some (.v (.str (mk x.reverse))) :=
  (slc_rev (part_int (by decide))).trans (if_pos (Nat.le_trans (Nat.le_of_eq (mk_len x)) hl))
theorem add_str {a b : List Nat} (h : a.length + b.length ≤ lim) : binD .Add (.v (.str (mk a))) (.v (.str (mk b))) = some (.v (.str (mk (a ++ b)))) :=
  (if_pos (show (mk a).length + (mk b).length ≤ lim by rw [mk_len,mk_len]; exact h)).trans (congrArg (fun x => some (D.v (.str x))) (mk_app a b))
noncomputable abbrev sT (l : List Nat) : V := .str (mk l)
noncomputable abbrev tx (ls : List (List Nat)) : List V := ls.map sT
noncomputable abbrev IsT (ε : Ev) (ρ : Loc) (x : X) (l : List Nat) (m : Nat) : Prop := evE ε x ρ = some (.v (sT l)) /\ l.length ≤ m
section
variable {ε : Ev} {ρ : Loc} {x y : X} {a b d o : List Nat} {m k : Nat}
theorem t_add (h1 : IsT ε ρ x a m) (h2 : IsT ε ρ y b k) (h : m + k ≤ 1000000 := by decide) : IsT ε ρ (.bin .Add x y) (a ++ b) (m + k) :=
  have q := Nat.add_le_add h1.2 h2.2
  ⟨ev_bin h1.1 h2.1 (add_str (Nat.le_trans q (le_lim h))),Nat.le_trans (Nat.le_of_eq List.length_append) q⟩
theorem t_dots : IsT ε ρ (.lit (.str ("..." : Str))) dots 3 := ⟨congrArg (fun s => some (D.v (V.str s))) dots_str,Nat.le_refl 3⟩
variable (hl : o.length ≤ 1000) (h : ρ[0]? = some (some (.v (sT o))))
include hl h
theorem t_own : IsT ε ρ (.var 0) o 1000 := ⟨evV h,hl⟩
theorem t_one (q : o.take 1 = [32]) : IsT ε ρ (.slc (.var 0) .no (.lit (.int 1)) .no) [32] 1 := ⟨ev_slc (evV h) rfl rfl rfl (q ▸ sl_01 (Nat.le_trans hl (le_lim (by decide)))),Nat.le_refl 1⟩
theorem t_b (q : o.drop 1 = b) : IsT ε ρ (.slc (.var 0) (.lit (.int 1)) .no .no) b 1000 :=
  ⟨ev_slc (evV h) rfl rfl rfl (q ▸ sl_1n (Nat.le_trans hl (le_lim (by decide)))),q ▸ Nat.le_trans (Nat.le_of_eq List.length_drop) (Nat.le_trans (Nat.sub_le _ _) hl)⟩
theorem t_d (q : o.take (o.length - 1) = d) : IsT ε ρ (.slc (.var 0) .no (.neg (.lit (.int 1))) .no) d 1000 :=
  ⟨ev_slc (evV h) rfl (ev_neg (i:=1) rfl) rfl (q ▸ sl_0m (Nat.le_trans hl (le_lim (by decide)))),q ▸ Nat.le_trans (List.length_take_le' _ _) hl⟩
theorem t_rev : IsT ε ρ (.slc (.var 0) .no .no (.neg (.lit (.int 1)))) o.reverse 1000 :=
  ⟨ev_slc (evV h) rfl rfl (ev_neg (i:=1) rfl) (sl_rev (Nat.le_trans hl (le_lim (by decide)))),Nat.le_trans (Nat.le_of_eq List.length_reverse) hl⟩
end
noncomputable def right (o b : List Nat) : List (List Nat) := [o,[32] ++ dots ++ b]
noncomputable def wrong1 (o b d : List Nat) : List (List Nat) := [o.reverse,o ++ o,b,b ++ dots,dots ++ d,o ++ dots ++ o]
noncomputable def wrong2 (b d : List Nat) : List (List Nat) := [dots ++ d ++ dots ++ b ++ dots,dots ++ b ++ dots ++ [32] ++ dots]
noncomputable abbrev stA (o : List Nat) (x y z : Option D) : Loc := [some (.v (sT o)),x,y,z]
noncomputable abbrev lT (ls : List (List Nat)) : Option D := some (.v (.list (tx ls)))
section
variable {ε : Ev} {o b d : List Nat} {x y z : Option D} (H : Alone o b d) (hl : o.length ≤ 1000)
include H
theorem Alone.t1 : o.take 1 = [32] := H.ob ▸ rfl
theorem Alone.t2 : o.drop 1 = b := H.ob ▸ rfl
theorem Alone.t3 : o.take (o.length - 1) = d := by
  have := H.od
  subst this
  rw [List.length_append]
  exact List.take_left
include hl
theorem a1 : evS ε s1_law_alone (stA o x y z) = some (.next,stA o (lT (right o b)) y z) :=
  do_asg (ev_lst (evXs_cons (t_own hl rfl).1 (evXs_cons (t_add (t_add (t_one hl rfl H.t1) t_dots) (t_b hl rfl H.t2)).1 rfl)) rfl (show 2 ≤ lim from le_lim (by decide))) rfl rfl
theorem a2 : evS ε s2_law_alone (stA o x y z) = some (.next,stA o x (lT (wrong1 o b d)) z) :=
  do_asg (ev_lst (evXs_cons (t_rev hl rfl).1 (evXs_cons (t_add (t_own hl rfl) (t_own hl rfl)).1 (evXs_cons (t_b hl rfl H.t2).1 (evXs_cons (t_add (t_b hl rfl H.t2) t_dots).1 (evXs_cons (t_add t_dots (t_d hl rfl H.t3)).1 (evXs_cons (t_add (t_add (t_own hl rfl) t_dots) (t_own hl rfl)).1 rfl)))))) rfl (show 6 ≤ lim from le_lim (by decide))) rfl rfl
theorem a3 : evS ε s3_law_alone (stA o x (lT (wrong1 o b d)) z) = some (.next,stA o x (lT (wrong1 o b d ++ wrong2 b d)) z) :=
  do_asg (ev_bin (evV rfl) (ev_lst (evXs_cons (t_add (t_add (t_add (t_add t_dots (t_d hl rfl H.t3)) t_dots) (t_b hl rfl H.t2)) t_dots).1 (evXs_cons (t_add (t_add (t_add (t_add t_dots (t_b hl rfl H.t2)) t_dots) (t_one hl rfl H.t1)) t_dots).1 rfl)) rfl (show 2 ≤ lim from le_lim (by decide))) (if_pos (e:=none) (show 6 + 2 ≤ lim from le_lim (by decide)))) rfl rfl
end
section
variable {n : Nat} {o b d : List Nat} (H : Alone o b d) (hl : o.length ≤ 1000)
noncomputable abbrev Gives (rest : List (Str × FnX)) (n : Nat) (o : List Nat) (t : Bool) (x : List Nat) : Prop := R rest (n + 1) 7 [sT x,sT o] = some (.bool t)
theorem no_dots (ps : List (List Nat)) : (∀ p ∈ ps,46 ∉ p /\ p.length ≤ 2000) -> Nat.ble 2 ps.length = true -> Nat.ble ps.length 20 = true -> o.length ≤ 1000 -> ∀ {t : Bool} {x : List Nat},ell (mk o) (ps.map mk) = t -> x = join3 ps -> Gives rest n o t x :=
  fun hp h2 h9 hl t x e q => q ▸ ell_join (Nat.le_of_ble_eq_true h2) (Nat.le_of_ble_eq_true h9) hp (Nat.le_trans hl (le_lim (by decide))) e
theorem plain_no {x : List Nat} (h : 46 ∉ x) (q : x ≠ o) : Gives rest n o false x := (ell_plain h).trans (congrArg (fun b => some (V.bool b)) (mk_ne q))
theorem join4 (a b : List Nat) : dots ++ a ++ dots ++ b ++ dots = join3 [[],a,b,[]] := by
  show _ = dots ++ (a ++ dots ++ (b ++ dots ++ []))
  rw [List.append_nil,List.append_assoc,List.append_assoc,List.append_assoc,List.append_assoc]
include H hl
theorem Alone.ok : (46 ∉ o /\ o.length ≤ 2000) /\ (46 ∉ b /\ b.length ≤ 2000) /\ (46 ∉ d /\ d.length ≤ 2000) /\ (46 ∉ ([] : List Nat) /\ ([] : List Nat).length ≤ 2000) /\ (46 ∉ [32] /\ [32].length ≤ 2000) :=
  have k : o.length - 1 ≤ 2000 := Nat.le_trans (Nat.sub_le _ _) (Nat.le_trans hl (by decide))
  ⟨⟨H.no,Nat.le_trans hl (by decide)⟩,⟨H.bno,H.bl ▸ k⟩,⟨H.dno,H.dl ▸ k⟩,by decide,by decide⟩
theorem j1 : ∀ x ∈ right o b,Gives rest n o true x :=
  have k := H.ok hl
  List.forall_mem_cons.mpr ⟨(ell_plain H.no).trans (congrArg (fun b => some (V.bool b)) (BEq.rfl : (mk o == mk o) = true)),List.forall_mem_cons.mpr
    ⟨no_dots [[32],b] (List.forall_mem_cons.mpr ⟨k.2.2.2.2,List.forall_mem_cons.mpr ⟨k.2.1,List.forall_mem_nil _⟩⟩) rfl rfl hl (alone_w2 H) rfl,List.forall_mem_nil _⟩⟩
theorem j2 : ∀ x ∈ wrong1 o b d ++ wrong2 b d,Gives rest n o false x :=
  have k := H.ok hl
  have nn := k.2.2.2.1
  List.forall_mem_cons.mpr ⟨plain_no (fun q => H.no (List.mem_reverse.mp q)) (fun q => by
      have h1 : o.reverse.head? = some 44 := by rw [H.od,List.reverse_append]; rfl
      rw [q,H.ob] at h1
      exact absurd (Option.some.inj h1) (by decide)),
    List.forall_mem_cons.mpr ⟨plain_no (fun q => (List.mem_append.mp q).elim H.no H.no) (fun q => List.cons_ne_nil _ _ (H.ob.symm.trans (List.append_cancel_left (q.trans (List.append_nil o).symm)))),
    List.forall_mem_cons.mpr ⟨plain_no H.bno (fun q => List.cons_ne_self 32 b (H.ob.symm.trans q.symm)),
    List.forall_mem_cons.mpr ⟨no_dots [b,[]] (List.forall_mem_cons.mpr ⟨k.2.1,List.forall_mem_cons.mpr ⟨nn,List.forall_mem_nil _⟩⟩) rfl rfl hl (alone_w4 H) (List.append_nil _).symm,
    List.forall_mem_cons.mpr ⟨no_dots [[],d] (List.forall_mem_cons.mpr ⟨nn,List.forall_mem_cons.mpr ⟨k.2.2.1,List.forall_mem_nil _⟩⟩) rfl rfl hl (alone_w5 H) rfl,
    List.forall_mem_cons.mpr ⟨no_dots [o,o] (List.forall_mem_cons.mpr ⟨k.1,List.forall_mem_cons.mpr ⟨k.1,List.forall_mem_nil _⟩⟩) rfl rfl hl (alone_w6 H) rfl,
    List.forall_mem_cons.mpr ⟨no_dots [[],d,b,[]] (List.forall_mem_cons.mpr ⟨nn,List.forall_mem_cons.mpr ⟨k.2.2.1,List.forall_mem_cons.mpr ⟨k.2.1,List.forall_mem_cons.mpr ⟨nn,List.forall_mem_nil _⟩⟩⟩⟩) rfl rfl hl (alone_w7 H) (join4 d b),
    List.forall_mem_cons.mpr ⟨no_dots [[],b,[32],[]] (List.forall_mem_cons.mpr ⟨nn,List.forall_mem_cons.mpr ⟨k.2.1,List.forall_mem_cons.mpr ⟨k.2.2.2.2,List.forall_mem_cons.mpr ⟨nn,List.forall_mem_nil _⟩⟩⟩⟩) rfl rfl hl (alone_w8 H) (join4 b [32]),List.forall_mem_nil _⟩⟩⟩⟩⟩⟩⟩⟩
omit H hl
theorem c_of {i : Nat} {t c : Bool} {ls : List (List Nat)} {x y z : Option D} (hi : (stA o x y z)[i]? = some (lT ls)) (h8 : ls.length ≤ 8) (hc : (!(t == c)) = false) (h : ∀ x ∈ ls,Gives rest n o t x) :
    evE (EvR rest (n + 1)) (.comp (.cons (.n 3) (.var i) (.cons (.cmp .IsNot (.call 7 (.cons (.var 3) (.cons (.var 0) .nil))) (.lit (.bool c))) .nil) (.done (.var 3)))) (stA o x y z) = some (.t []) :=
  comp_none (show 3 < 4 by decide) (evI_var hi rfl (map_lim (Nat.le_trans h8 (le_lim (by decide))))) (List.forall_mem_map.mpr fun x hx => ev_cmp (evE_call (evXs_cons (evV rfl) (evXs_cons (evV rfl) rfl)) rfl (h x hx)) rfl (congrArg some hc))
theorem alone_run (H : Alone o b d) (hl : o.length ≤ 1000) : R rest (n + 2) 10 [.str (mk o)] = some (.bool true) :=
  run_ret rfl rfl (go_next (a1 H hl) (go_next (a2 H hl) (go_next (a3 H hl) (go_next (if_no (ev_cmp (c_of (t:=true) rfl (show 2 ≤ 8 by decide) rfl (j1 H hl)) rfl rfl) go_nil) (go_ret (do_ret (.v (.bool true)) (evB_cmp (c_of (t:=false) rfl (show 8 ≤ 8 by decide) rfl (j2 H hl)) rfl rfl) rfl))))))
end
end
end
section
open PySem.StrLaws PySem.Builtin.Str
noncomputable def names10 : List Str := ["OPTIMIZED","NEWLOCALS","VARARGS","VARKEYWORDS","NESTED","GENERATOR","NOFREE","COROUTINE","ITERABLE_COROUTINE","ASYNC_GENERATOR"]
noncomputable def wordS (p : Nat) : Str := if p < 10 then names10.getD p (mk []) else mk ([48,120] ++ [[49,50,52,56].getD (p % 4) 0] ++ List.replicate (p / 4) 48)
noncomputable def wordL (p : Nat) : List Nat := (wordS p).cps.toList
theorem word_mk (p : Nat) : wordS p = mk (wordL p) := mk_of _
noncomputable def goodB (w : List Nat) : Bool := !w.contains 32 && !w.contains 44 && !w.contains 46 && !w.isEmpty && decide (w.length ≤ 30) && w != [48,120,48]
theorem words_good : (List.range 64).all (fun p => goodB (wordL p)) = true := by decide +kernel
theorem word_good {p : Nat} (h : p < 64) : Good (wordL p) /\ wordL p ≠ [] /\ (wordL p).length ≤ 30 /\ wordL p ≠ [48,120,48] := by
  have := List.all_eq_true.mp words_good p (List.mem_range.mpr h)
  unfold goodB at this
  simp only [Bool.and_eq_true,Bool.not_eq_true',bne_iff_ne,ne_eq,decide_eq_true_eq,List.contains_eq_mem,decide_eq_false_iff_not] at this
  obtain ⟨⟨⟨⟨⟨h1,h2⟩,h3⟩,h4⟩,h5⟩,h6⟩ := this
  exact ⟨⟨h1,h2,h3⟩,by rintro q; rw [q] at h4; simp at h4,h5,h6⟩
theorem words_inj : ((List.range 64).map wordL).Nodup := by decide +kernel
theorem word_inj {p q : Nat} (hp : p < 64) (hq : q < 64) (h : wordL p = wordL q) : p = q := by
  have hn := words_inj
  have e1 : ((List.range 64).map wordL)[p]? = some (wordL p) := by simp [hp]
  have e2 : ((List.range 64).map wordL)[q]? = some (wordL q) := by simp [hq]
  exact (List.getElem?_inj (by simpa using hp) hn).mp (by rw [e1,e2,h])
theorem flag_words : (List.range 32).all (fun i => decide ((getTb flagTab0 (2 ^ i)).getD (baseText "0x" 16 (2 ^ i)) = wordS i)) = true := by decide +kernel
theorem flag_word {i : Nat} (h : i < 32) : (getTb flagTab0 (2 ^ i)).getD (baseText "0x" 16 (2 ^ i)) = wordS i := by
  simpa using List.all_eq_true.mp flag_words i (List.mem_range.mpr h)
theorem hex_words : (List.range 63).all (fun i => decide (i < 32) || (decide (baseText "0x" 16 (2 ^ i) = wordS i) && decide (baseText "0x" 16 (-(2 ^ i)) = mk (45 :: wordL i)))) = true := by decide +kernel
theorem hex_word {i : Nat} (h : 32 ≤ i) (h2 : i < 63) : baseText "0x" 16 (2 ^ i) = wordS i /\ baseText "0x" 16 (-(2 ^ i)) = mk (45 :: wordL i) := by
  have := List.all_eq_true.mp hex_words i (List.mem_range.mpr h2)
  simp only [Bool.or_eq_true,decide_eq_true_eq,Bool.and_eq_true] at this
  rcases this with q | q
  · lia
  · exact q
theorem hex_zero : baseText "0x" 16 0 = mk [48,120,48] := by decide +kernel
theorem hex_len {i : Nat} (h : i < 32) : (baseText "0x" 16 (2 ^ i)).length ≤ lim := by
  have : (List.range 32).all (fun i => decide ((baseText "0x" 16 (2 ^ i)).length ≤ 100)) = true := by decide +kernel
  have := List.all_eq_true.mp this i (List.mem_range.mpr h)
  simp only [decide_eq_true_eq] at this
  exact Nat.le_trans this (by decide)
section
variable {rest : List (Str × FnX)}
theorem mul_zero_str (k : Nat) : Txt.mul (mk [48]) (k : Int) = mk (List.replicate k 48) := by
  unfold Txt.mul
  by_cases h0 : k = 0
  · subst h0; rfl
  · rw [if_neg (by lia)]
    by_cases h1 : k = 1
    · subst h1; rfl
    · have : ((k : Int) == 1 || (mk [48]).length == 0) = false := by
        have : ¬ (k : Int) = 1 := by lia
        simp [mk_len,this]
      rw [this,if_neg Bool.false_ne_true,Int.toNat_natCast]
      show (⟨_⟩ : Str) = ⟨_⟩
      congr 1
      have : ∀ (n : Nat) (a : List Nat),(List.replicate n #[48]).foldl (· ++ ·) a.toArray = (a ++ List.replicate n 48).toArray := by
        intro n
        induction n with
        | zero => intro a; simp
        | succ n ih =>
          intro a
          rw [List.replicate_succ,List.foldl_cons]
          have e : a.toArray ++ #[48] = (a ++ [48]).toArray := by simp
          rw [e,ih,List.replicate_succ]
          simp
      simpa using this k []
theorem w10 : ∀ p : Fin 10,names10[p.1]? = some (wordS p.1) := by decide +kernel
theorem w_dig : ∀ {q : Nat},q < 4 -> subD (.v (.str ("1248" : Str))) (.v (.int q)) = some (.v (.str (mk [[49,50,52,56].getD q 0])))
  | 0,_ => rfl
  | 1,_ => rfl
  | 2,_ => rfl
  | 3,_ => rfl
  | q + 4,h => absurd h (Nat.not_lt.mpr (Nat.le_add_left 4 q))
theorem mod_bin {a k : Nat} (h : (k : Int) ≠ 0) : binInt .Mod a k = some ((a % k : Nat) : Int) := (if_pos h).trans (congrArg some (Int.fmod_eq_emod_of_nonneg (a : Int) (Int.natCast_nonneg k)))
theorem div_bin {a k : Nat} (h : (k : Int) ≠ 0 /\ bits (k : Int) < 9000) : binInt .FloorDiv a k = some ((a / k : Nat) : Int) := (if_pos h).trans (congrArg some (Int.fdiv_eq_ediv_of_nonneg (a : Int) (Int.natCast_nonneg k)))
theorem zeros {k : Nat} (h : k ≤ 100) : binD .Mult (.v (.str (mk [48]))) (.v (.int k)) = some (.v (.str (mk (List.replicate k 48)))) :=
  have h' : k ≤ lim := Nat.le_trans h (le_lim (by decide))
  (if_pos ⟨Int.natCast_nonneg k,Int.ofNat_le.mpr h',show 1 * k ≤ lim from Nat.le_trans (Nat.le_of_eq (Nat.one_mul k)) h'⟩).trans (congrArg (fun s => some (D.v (.str s))) (mul_zero_str k))
theorem s_0x : ("0x" : Str) = mk [48,120] := by rw [Str.ofString_eq_toList]; rfl
theorem s_0 : ("0" : Str) = mk [48] := by rw [Str.ofString_eq_toList]; rfl
theorem t_lit {ε : Ev} {ρ : Loc} {x : Str} {l : List Nat} {m : Nat} (h : x = mk l) (hl : l.length ≤ m) : IsT ε ρ (.lit (.str x)) l m := ⟨congrArg (fun s => some (D.v (.str s))) h,hl⟩
section
variable {ε : Ev} {p : Nat}
theorem w1 : evS ε s1_law_word [di p,none] = some (.next,[di p,some (.v (.list ((names10.take 8).map V.str)))]) :=
  do_asg (ev_lst (ds:=(names10.take 8).map fun s => .v (.str s)) (vs:=(names10.take 8).map V.str) rfl rfl (show 8 ≤ lim from le_lim (by decide))) rfl rfl
theorem w2 : evS ε s2_law_word [di p,some (.v (.list ((names10.take 8).map V.str)))] = some (.next,[di p,some (.v (.list (names10.map V.str)))]) :=
  do_asg (v:=.list (names10.map V.str)) (ev_bin (evV rfl) (ev_lst (ds:=(names10.drop 8).map fun s => .v (.str s)) (vs:=(names10.drop 8).map V.str) rfl rfl (show 2 ≤ lim from le_lim (by decide))) (if_pos (e:=none) (show 8 + 2 ≤ lim from le_lim (by decide)))) rfl rfl
theorem w3 {x : Option D} : evT ε (.cmp .Lt (.var 0) (.lit (.int 10))) [di p,x] = some (decide ((p : Int) < (10 : Nat))) := ev_cmp (evV rfl) rfl rfl
theorem w4 (h : p < 10) : evE ε (.sub (.var 1) (.var 0)) [di p,some (.v (.list (names10.map V.str)))] = some (.v (.str (wordS p))) :=
  ev_sub (evV rfl) (evV rfl) (sub_at rfl rfl (show 10 ≤ lim from le_lim (by decide)) (List.getElem?_map.trans (congrArg (Option.map V.str) (w10 ⟨p,h⟩))))
theorem w5 {x : Option D} (h : p < 64) (hp : ¬p < 10) : evE ε (.bin .Add (.bin .Add (.lit (.str ("0x" : Str))) (.sub (.lit (.str ("1248" : Str))) (.bin .Mod (.var 0) (.lit (.int 4))))) (.bin .Mult (.lit (.str ("0" : Str))) (.bin .FloorDiv (.var 0) (.lit (.int 4))))) [di p,x] = some (.v (.str (wordS p))) :=
  have b2 : evE ε (.bin .FloorDiv (.var 0) (.lit (.int 4))) [di p,x] = some (.v (.int (p / 4 : Nat))) := evBin (evV rfl) rfl (div_bin (k:=4) ⟨by decide,by decide⟩)
  have k : p / 4 ≤ 100 := Nat.le_trans (Nat.div_le_self p 4) (Nat.le_trans (Nat.le_of_lt h) (by decide))
  have t2 : IsT ε [di p,x] (.sub (.lit (.str ("1248" : Str))) (.bin .Mod (.var 0) (.lit (.int 4)))) [[49,50,52,56].getD (p % 4) 0] 1 := ⟨ev_sub rfl (evBin (evV rfl) rfl (mod_bin (k:=4) (by decide))) (w_dig (Nat.mod_lt p (by decide))),Nat.le_refl 1⟩
  have t3 : IsT ε [di p,x] (.bin .Mult (.lit (.str ("0" : Str))) (.bin .FloorDiv (.var 0) (.lit (.int 4)))) (List.replicate (p / 4) 48) 100 := ⟨ev_bin (congrArg (fun s => some (D.v (.str s))) s_0) b2 (zeros k),Nat.le_trans (Nat.le_of_eq List.length_replicate) k⟩
  (t_add (t_add (t_lit s_0x (Nat.le_refl 2)) t2) t3).1.trans (congrArg (fun s => some (D.v (.str s))) (if_neg hp).symm)
end
theorem word_run {n p : Nat} (h : p < 64) : R rest (n + 1) 8 [.int p] = some (.str (wordS p)) :=
  if hp : p < 10 then
    run_ret rfl rfl (go_next w1 (go_next w2 (go_ret (if_yes (w3.trans (congrArg some (decide_eq_true (Int.ofNat_lt.mpr hp)))) (go_ret (do_ret (.v (.str (wordS p))) (w4 hp) rfl))))))
  else
    run_ret rfl rfl (go_next w1 (go_next w2 (go_next (if_no (w3.trans (congrArg some (lt_no (Nat.le_of_not_lt hp)))) go_nil) (go_ret (do_ret (.v (.str (wordS p))) (w5 h hp) rfl)))))
noncomputable def collect (i : Nat) : Nat -> Int -> List Nat
  | 0,_ => []
  | k + 1,t => (if t % 2 = 1 then [i] else []) ++ collect (i + 1) k (t / 2)
theorem collect_even {i k : Nat} {t : Int} (h : t % 2 = 0) : collect i (k + 1) t = collect (i + 1) k (t / 2) :=
  congrArg (· ++ collect (i + 1) k (t / 2)) (if_neg (fun q => absurd (h.symm.trans q) (by decide)))
theorem collect_odd {i k : Nat} {t : Int} (h : t % 2 = 1) : collect i (k + 1) t = i :: collect (i + 1) k (t / 2) :=
  congrArg (· ++ collect (i + 1) k (t / 2)) (if_pos h)
theorem collect_zero : ∀ (k i : Nat),collect i k 0 = []
  | 0,_ => rfl
  | k + 1,i => (collect_even rfl).trans (collect_zero k (i + 1))
noncomputable abbrev wV (p : Nat) : V := .str (wordS p)
noncomputable abbrev stF (f : Int) (L : List V) (i g : Option D) : Loc := [di f,some (.o 1 L),i,g]
noncomputable abbrev bodyF (ε : Ev) : V -> Loc -> Option (Fl × Loc) := fun d ρ => (bindT (.n 2) d ρ).bind fun ρ' => evSs ε (.cons s1_pretty_flags (.cons s5_pretty_flags .nil)) ρ'
noncomputable def endF (t : Int) (k : Nat) : Fl := if ¬t = 0 /\ t / 2 ^ k = 0 then .brk else .next
theorem div_pow (t : Int) (k : Nat) : t / 2 ^ (k + 1) = t / 2 / 2 ^ k := by
  rw [Int.ediv_ediv_of_nonneg (by decide),Int.pow_succ,Int.mul_comm]
theorem ite_iff {p q : Prop} [Decidable p] [Decidable q] {α : Type} {a b : α} (h : p ↔ q) : ite p a b = ite q a b :=
  if hp : p then (if_pos hp).trans (if_pos (h.mp hp)).symm else (if_neg hp).trans (if_neg fun q => hp (h.mpr q)).symm
theorem endF_step {t : Int} {k : Nat} (h : t = 0 ↔ t / 2 = 0) : endF t (k + 1) = endF (t / 2) k :=
  ite_iff ⟨fun q => ⟨fun z => q.1 (h.mpr z),(div_pow t k).symm.trans q.2⟩,fun q => ⟨fun z => q.1 (h.mp z),(div_pow t k).trans q.2⟩⟩
theorem pow_half (i : Nat) (t : Int) : (2 : Int) ^ (i + 1) * (t / 2) = 2 ^ i * (2 * (t / 2)) := by rw [Int.pow_succ,Int.mul_assoc]
theorem even_2 {t : Int} (h : t % 2 = 0) : 2 * (t / 2) = t := by have := Int.mul_ediv_add_emod t 2; rw [h,Int.add_zero] at this; exact this
theorem odd_2 {t : Int} (h : t % 2 = 1) : 2 * (t / 2) = t - 1 := by have := Int.mul_ediv_add_emod t 2; rw [h] at this; exact (Int.add_sub_cancel _ 1).symm.trans (congrArg (· - 1) this)
section
variable {n : Nat} {i k : Nat} {t : Int} {L : List V} {x g : Option D} {q : Option (Fl × Loc)}
theorem f_and (i : Nat) (t : Int) : Builtin.bitAnd (2 ^ i * t) (2 ^ i) = t % 2 * 2 ^ i := by
  rw [kbt_bit,Int.mul_ediv_cancel_left _ (Int.ne_of_gt (pow_pos' i))]
theorem f_xor (h : t % 2 = 1) : Builtin.bitXor (2 ^ i * t) (2 ^ i) = 2 ^ (i + 1) * (t / 2) := by
  rw [bitXor_and,f_and,h,Int.one_mul,pow_half,odd_2 h,Int.mul_sub,Int.mul_one]
  generalize (2 : Int) ^ i * t = a,(2 : Int) ^ i = b
  lia
theorem f_1 {ε : Ev} (h : i < 32) : evS ε s1_pretty_flags (stF t L (di i) g) = some (.next,stF t L (di i) (di (2 ^ i))) :=
  do_asg (evBin rfl (evV rfl) ((shl_bin (Nat.le_trans (Nat.add_le_add_left (Nat.le_of_lt h) 1) (by decide))).trans (congrArg some (Int.one_mul _)))) rfl rfl
theorem f_t {ε : Ev} : evT ε (.bin .BitAnd (.var 0) (.var 3)) (stF (2 ^ i * t) L x (di (2 ^ i))) = some (t % 2 * 2 ^ i != 0) :=
  tv_bin (evV rfl) (evV rfl) (congrArg (fun z => some (D.v (.int z))) (f_and i t)) rfl
theorem f_t0 {ε : Ev} (h : t % 2 = 0) : evT ε (.bin .BitAnd (.var 0) (.var 3)) (stF (2 ^ i * t) L x (di (2 ^ i))) = some false := f_t.trans (by rw [h,Int.zero_mul]; rfl)
theorem f_t1 {ε : Ev} (h : t % 2 = 1) : evT ε (.bin .BitAnd (.var 0) (.var 3)) (stF (2 ^ i * t) L x (di (2 ^ i))) = some true := f_t.trans (by rw [h,Int.one_mul]; exact congrArg some (bne_iff_ne.mpr (Int.ne_of_gt (pow_pos' i))))
theorem f_2 (h : i < 32) (hl : L.length ≤ lim) : evS (EvR rest n) s2_pretty_flags (stF t L x (di (2 ^ i))) = some (.next,stF t (L ++ [wV i]) x (di (2 ^ i))) :=
  do_app (bindK (evV (d:=.v (.int (2 ^ i))) rfl) (bindK (ev_bi (evXs_cons (a:=.v (.int (2 ^ i))) (evV rfl) rfl) (if_pos (hex_len h))) (congrArg (fun z => some (D.v (.str z))) (flag_word h))) : evE _ (.flag (.var 3) (.bi .hex (.cons (.var 3) .nil))) _ = _) rfl rfl hl
theorem f_3 (h : t % 2 = 1) {ε : Ev} : evS ε s3_pretty_flags (stF (2 ^ i * t) L x (di (2 ^ i))) = some (.next,stF (2 ^ (i + 1) * (t / 2)) L x (di (2 ^ i))) := do_aug rfl (evV rfl) (congrArg some (f_xor h))
theorem f_even {ε : Ev} (h : i < 32) (hm : t % 2 = 0) : bodyF ε (.int i) (stF (2 ^ i * t) L x g) = some (.next,stF (2 ^ (i + 1) * (t / 2)) L (di i) (di (2 ^ i))) :=
  (go_next (f_1 h) (go_next (if_no (f_t0 hm) go_nil) go_nil)).trans (by rw [pow_half,even_2 hm])
theorem f_next (h : i < 32) (hl : L.length ≤ lim) (hm : t % 2 = 1) (hz : t / 2 ≠ 0) : bodyF (EvR rest n) (.int i) (stF (2 ^ i * t) L x g) = some (.next,stF (2 ^ (i + 1) * (t / 2)) (L ++ [wV i]) (di i) (di (2 ^ i))) :=
  go_next (f_1 h) (go_next (if_yes (f_t1 hm) (go_next (f_2 h hl) (go_next (f_3 hm) (go_next (if_no (tv_not (tv_var (d:=.v (.int (2 ^ (i + 1) * (t / 2)))) rfl (congrArg some (bne_iff_ne.mpr (Int.mul_ne_zero (Int.ne_of_gt (pow_pos' (i + 1))) hz))))) go_nil) go_nil)))) go_nil)
theorem f_brk (h : i < 32) (hl : L.length ≤ lim) (hm : t % 2 = 1) (hz : t / 2 = 0) : bodyF (EvR rest n) (.int i) (stF (2 ^ i * t) L x g) = some (.brk,stF 0 (L ++ [wV i]) (di i) (di (2 ^ i))) :=
  have e : (2 : Int) ^ (i + 1) * (t / 2) = 0 := by rw [hz,Int.mul_zero]
  (go_next (f_1 h) (go_brk (if_yes (f_t1 hm) (go_next (f_2 h hl) (go_next (f_3 hm) (go_brk (if_yes (tv_not (tv_var (d:=.v (.int (2 ^ (i + 1) * (t / 2)))) rfl (congrArg (fun z => some (z != 0)) e))) (go_brk rfl)))))))).trans (by rw [e])
noncomputable abbrev Ends (t : Int) (i k : Nat) (L : List V) (q : Option (Fl × Loc)) : Prop := ∃ x' g',q = some (endF t k,stF (2 ^ 32 * (t / 2 ^ k)) (L ++ (collect i k t).map wV) x' g')
theorem ends_even (hm : t % 2 = 0) (h : Ends (t / 2) (i + 1) k L q) : Ends t i (k + 1) L q := by
  unfold Ends
  rw [endF_step ⟨fun h => by rw [h]; rfl,fun h => by rw [<- even_2 hm,h]; rfl⟩,collect_even hm,div_pow]
  exact h
theorem ends_odd (hm : t % 2 = 1) (hz : t / 2 ≠ 0) (h : Ends (t / 2) (i + 1) k (L ++ [wV i]) q) : Ends t i (k + 1) L q := by
  unfold Ends
  rw [endF_step ⟨fun h => by rw [h]; rfl,fun h => absurd h hz⟩,collect_odd hm,div_pow,List.map_cons,List.append_cons]
  exact h
theorem ends_brk (hm : t % 2 = 1) (hz : t / 2 = 0) (h : q = some (.brk,stF 0 (L ++ [wV i]) x g)) : Ends t i (k + 1) L q := by
  refine ⟨x,g,?_⟩
  rw [endF,div_pow,hz,Int.zero_ediv,if_pos ⟨fun q => by rw [q] at hm; exact absurd hm (by decide),rfl⟩,collect_odd hm,hz,collect_zero]
  exact h
theorem forL_brk {f : V -> Loc -> Option (Fl × Loc)} {d : V} {l : List V} {ρ ρ' : Loc} (h : f d ρ = some (.brk,ρ')) : forL f (d :: l) ρ = some (.brk,ρ') := (bindK h rfl : forL f (d :: l) ρ = _)
theorem flags_loop : ∀ (k i : Nat) (t : Int) (L : List V) (x g : Option D),i + k = 32 -> L.length + k ≤ 100 -> Ends t i k L (forL (bodyF (EvR rest n)) (intsV i k) (stF (2 ^ i * t) L x g))
  | 0,i,t,L,x,g,hi,_ => by
    cases hi
    refine ⟨x,g,?_⟩
    rw [Int.pow_zero,Int.ediv_one,endF,Int.pow_zero,Int.ediv_one,if_neg fun h => h.1 h.2,collect,List.map_nil,List.append_nil]
    rfl
  | k + 1,i,t,L,x,g,hi,hL => by
    have hi' : i + 1 + k = 32 := (Nat.add_assoc i 1 k).trans ((congrArg (i + ·) (Nat.add_comm 1 k)).trans hi)
    have h : i < 32 := Nat.lt_of_lt_of_eq (Nat.lt_add_of_pos_right (Nat.succ_pos k)) hi
    have hk : L.length + 1 + k ≤ 100 := Nat.le_trans (Nat.le_of_eq ((Nat.add_assoc _ 1 k).trans (congrArg (L.length + ·) (Nat.add_comm 1 k)))) hL
    have hl : L.length ≤ lim := Nat.le_trans (Nat.le_of_add_right_le hL) (le_lim (by decide))
    rcases Int.emod_two_eq t with hm | hm
    · exact ends_even hm ((for_go (f_even h hm) : _ = forL (bodyF (EvR rest n)) (intsV (i + 1 : Nat) k) _) ▸ flags_loop k (i + 1) (t / 2) L _ _ hi' (Nat.le_trans (Nat.add_le_add_left (Nat.le_succ k) _) hL))
    · by_cases hz : t / 2 = 0
      · exact ends_brk hm hz (forL_brk (f_brk h hl hm hz))
      · exact ends_odd hm hz ((for_go (f_next h hl hm hz) : _ = forL (bodyF (EvR rest n)) (intsV (i + 1 : Nat) k) _) ▸ flags_loop k (i + 1) (t / 2) (L ++ [wV i]) _ _ hi' (Nat.le_trans (Nat.le_of_eq (congrArg (· + k) List.length_append)) hk))
end
end
end
section
open PySem.StrLaws PySem.Builtin.Str
noncomputable def joinC : List (List Nat) -> List Nat
  | [] => []
  | [p] => p
  | p :: q :: r => p ++ [44,32] ++ joinC (q :: r)
theorem flat_joinC : ∀ {ws : List (List Nat)},ws ≠ [] -> flat ws = 32 :: (joinC ws ++ [44])
  | [],h => absurd rfl h
  | [w],_ => by simp [flat,joinC]
  | w :: v :: r,_ => by
    rw [flat,flat_joinC (ws:=v :: r) (by simp),joinC]
    simp
theorem joinC_len : ∀ {ws : List (List Nat)},(∀ w ∈ ws,w.length ≤ 40) -> (joinC ws).length ≤ 42 * ws.length
  | [],_ => by simp [joinC]
  | [w],h => by have := h w (List.mem_singleton.mpr rfl); simp [joinC]; lia
  | w :: v :: r,h => by
    have h1 := h w List.mem_cons_self
    have h2 := joinC_len (ws:=v :: r) fun x hx => h x (List.mem_cons_of_mem _ hx)
    rw [joinC]
    simp only [List.length_append,List.length_cons,List.length_nil] at h2 ⊢
    lia
theorem comma_str : (", " : Str) = mk [44,32] := by rw [Str.ofString_eq_toList]; rfl
theorem join_mk : ∀ ws : List (List Nat),Str.join (mk [44,32]) (ws.map mk) = mk (joinC ws)
  | [] => rfl
  | [w] => rfl
  | w :: v :: r => by
    show mk w ++ mk [44,32] ++ Str.join (mk [44,32]) ((v :: r).map mk) = _
    rw [join_mk (v :: r),mk_app,mk_app,joinC]
theorem txt_join (ws : List (List Nat)) : Txt.join ", " (ws.map mk) = mk (joinC ws) := by
  rw [comma_str,Txt.join,glued_eq_join,join_mk]
theorem allStrs_mk (ws : List (List Nat)) : allStrs (ws.map fun w => V.str (mk w)) = some (ws.map mk) := by
  induction ws with
  | nil => rfl
  | cons w r ih => rw [List.map_cons,allStrs,ih]; rfl
theorem join_ev {ws : List (List Nat)} (hl : ws.length ≤ 100) (hw : ∀ w ∈ ws,w.length ≤ 40) {d : D} (hd : d.listOnly = some (tx ws)) : joinD (.v (.str (", " : Str))) [d] = some (.v (.str (mk (joinC ws)))) :=
  bindK hd (bindK (allStrs_mk ws) ((if_pos ⟨map_lim (Nat.le_trans hl (by decide)),by rw [comma_str,mk_len]; decide,List.all_eq_true.mpr (List.forall_mem_map.mpr fun w h => decide_eq_true (Nat.le_trans (Nat.le_of_eq (mk_len w)) (Nat.le_trans (hw w h) (by decide))))⟩).trans (congrArg (fun x => some (D.v (.str x))) (txt_join ws))))
theorem collect_lt : ∀ (k i : Nat) (t : Int),∀ j ∈ collect i k t,j < i + k
  | 0,_,_,j,h => by cases h
  | k + 1,i,t,j,h => by
    rw [collect,List.mem_append] at h
    rcases h with h | h
    · split at h
      · simp at h; lia
      · cases h
    · have := collect_lt k (i + 1) (t / 2) j h; lia
theorem collect_len : ∀ (k i : Nat) (t : Int),(collect i k t).length ≤ k
  | 0,_,_ => by simp [collect]
  | k + 1,i,t => by
    rw [collect,List.length_append]
    have := collect_len k (i + 1) (t / 2)
    split <;> simp <;> lia
section
variable {rest : List (Str × FnX)}
theorem words_V (l : List Nat) : l.map wV = tx (l.map wordL) := (List.map_congr_left fun p _ => congrArg V.str (word_mk p)).trans (List.map_map (f:=wordL) (g:=sT)).symm
theorem range_iv {ε : Ev} {ρ : Loc} {x : X} {n : Nat} (hx : evE ε x ρ = some (.v (.int n))) (hn : n ≤ lim) : evI ε (.bi .range (.cons x .nil)) ρ = some (intsV 0 n) :=
  (bindK hx (bindK rfl (if_pos ⟨Int.natCast_nonneg n,Int.ofNat_le.mpr hn⟩)) : evI ε (.bi .range (.cons x .nil)) ρ = _)
theorem do_forb {ε : Ev} {ρ ρ' : Loc} {tg : Tgt} {it : X} {body els : Ss} {l : List V} (hz : frozenIt it ρ = true) (h : evI ε it ρ = some l) (k : forL (fun d ρ => (bindT tg d ρ).bind fun ρ' => evSs ε body ρ') l ρ = some (.brk,ρ')) : evS ε (.forr tg it body els) ρ = some (.next,ρ') :=
  (if_neg (fun q => Bool.noConfusion (hz.symm.trans q))).trans (bindK h (bindK k rfl))
section
variable {n : Nat} {f g : Int} {us : List (List Nat)} {x y : Option D} {w : List Nat}
theorem f_els {ε : Ev} {L : List V} (h1 : baseText "0x" 16 g = mk w) (h2 : w.length ≤ 40) (hl : L.length ≤ lim) : evSs ε (.cons s6_pretty_flags .nil) (stF g L x y) = some (.next,stF g (L ++ [sT w]) x y) :=
  go_next (do_app (ev_bi (evXs_cons (a:=.v (.int g)) (evV rfl) rfl) ((if_pos (Nat.le_trans (Nat.le_of_eq ((congrArg Str.length h1).trans (mk_len w))) (Nat.le_trans h2 (le_lim (by decide))))).trans (congrArg (fun s => some (D.v (.str s))) h1))) rfl rfl hl) go_nil
theorem f_fin {ε : Ev} (h1 : us.length ≤ 100) (h2 : ∀ w ∈ us,w.length ≤ 40) : evS ε s8_pretty_flags (stF g (tx us) x y) = some (.ret (.str (mk (joinC us))),stF g (tx us) x y) :=
  do_ret (.v (.str (mk (joinC us)))) (ev_me rfl (evXs_cons (evV rfl) rfl) (join_ev h1 h2 rfl)) rfl
theorem f_run (h : evS (EvR rest n) s7_pretty_flags (stF f [] none none) = some (.next,stF g (tx us) x y)) (h1 : us.length ≤ 100) (h2 : ∀ w ∈ us,w.length ≤ 40) : R rest (n + 1) 0 [.int f] = some (.str (mk (joinC us))) :=
  run_ret rfl rfl (go_next (do_own (ev_lst rfl rfl (Nat.zero_le _)) (show 1 < 4 by decide)) (go_next h (go_ret (f_fin h1 h2))))
theorem f_words (f : Int) : ((collect 0 32 f).map wordL).length ≤ 32 /\ ∀ w ∈ (collect 0 32 f).map wordL,w.length ≤ 40 :=
  ⟨map_lim (collect_len 32 0 f),List.forall_mem_map.mpr fun p hp => Nat.le_trans (word_good (Nat.lt_of_lt_of_le (collect_lt 32 0 f p hp) (by decide))).2.2.1 (by decide)⟩
theorem f_loop (n : Nat) (f : Int) : ∃ x y,forL (bodyF (EvR rest n)) (intsV 0 32) (stF f [] none none) = some (endF f 32,stF (2 ^ 32 * (f / 2 ^ 32)) (tx ((collect 0 32 f).map wordL)) x y) := by
  obtain ⟨x,y,e⟩ := flags_loop (rest:=rest) (n:=n) 32 0 f [] none none rfl (by decide)
  rw [Int.pow_zero,Int.one_mul,words_V] at e
  exact ⟨x,y,e⟩
theorem f_goes (h : ¬(¬f = 0 /\ f / 2 ^ 32 = 0)) (hw : baseText "0x" 16 (2 ^ 32 * (f / 2 ^ 32)) = mk w) (hl : w.length ≤ 40) : R rest (n + 1) 0 [.int f] = some (.str (mk (joinC ((collect 0 32 f).map wordL ++ [w])))) := by
  obtain ⟨x,y,e⟩ := f_loop (rest:=rest) n f
  rw [endF,if_neg h] at e
  have k := f_words f
  refine f_run (g:=2 ^ 32 * (f / 2 ^ 32)) (x:=x) (y:=y) ?_ (Nat.le_trans (Nat.le_of_eq List.length_append) (Nat.le_trans (Nat.add_le_add_right k.1 1) (by decide))) (List.forall_mem_append.mpr ⟨k.2,List.forall_mem_cons.mpr ⟨hl,List.forall_mem_nil _⟩⟩)
  rw [tx,List.map_append]
  exact (do_for rfl (range_iv (n:=32) rfl (le_lim (by decide))) e).trans (f_els hw hl (map_lim (Nat.le_trans k.1 (le_lim (by decide)))))
theorem f_stop (h1 : f ≠ 0) (h2 : f / 2 ^ 32 = 0) : R rest (n + 1) 0 [.int f] = some (.str (mk (joinC ((collect 0 32 f).map wordL)))) := by
  obtain ⟨x,y,e⟩ := f_loop (rest:=rest) n f
  rw [endF,if_pos ⟨h1,h2⟩] at e
  exact f_run (do_forb rfl (range_iv (n:=32) rfl (le_lim (by decide))) e) (Nat.le_trans (f_words f).1 (by decide)) (f_words f).2
end
theorem flags_run {n : Nat} {f : Int} {ws : List (List Nat)} (h : (f = 0 /\ ws = [[48,120,48]]) ∨ (f ≠ 0 /\ f / 2 ^ 32 = 0 /\ ws = (collect 0 32 f).map wordL) ∨ (f / 2 ^ 32 ≠ 0 /\ ∃ w,baseText "0x" 16 (2 ^ 32 * (f / 2 ^ 32)) = mk w /\ w.length ≤ 40 /\ ws = (collect 0 32 f).map wordL ++ [w])) :
    R rest (n + 1) 0 [.int f] = some (.str (mk (joinC ws))) := by
  rcases h with ⟨rfl,rfl⟩ | ⟨h1,h2,rfl⟩ | ⟨h1,w,h2,h3,rfl⟩
  · exact f_goes (w:=[48,120,48]) (fun q => q.1 rfl) hex_zero (by decide)
  · exact f_stop h1 h2
  · exact f_goes (fun q => h1 q.2) h2 h3
noncomputable def bits5 (one : Nat) : List Nat := (List.range 5).filter fun k => decide (one / 2 ^ k % 2 = 1)
noncomputable def textW (one low : Nat) : List (List Nat) := if one = 0 then [[48,120,48]] else (bits5 one).map fun k => wordL (low + k)
theorem collect_app : ∀ (j i k : Nat) (t : Int),collect i (j + k) t = collect i j t ++ collect (i + j) k (t / 2 ^ j)
  | 0,i,k,t => by rw [Nat.zero_add,collect,List.nil_append,Int.pow_zero,Int.ediv_one,Nat.add_zero]
  | j + 1,i,k,t => by
    have e1 : i + 1 + j = i + (j + 1) := by lia
    have e2 : t / 2 / 2 ^ j = t / 2 ^ (j + 1) := by rw [Int.ediv_ediv_of_nonneg (by decide),Int.pow_succ,Int.mul_comm]
    rw [Nat.add_right_comm,collect,collect,collect_app j (i + 1) k (t / 2),List.append_assoc,e1,e2]
theorem collect_mul : ∀ (j i : Nat) (t : Int),collect i j (2 ^ j * t) = []
  | 0,_,_ => rfl
  | j + 1,i,t => by
    have e : (2 : Int) ^ (j + 1) * t = 2 * (2 ^ j * t) := by rw [Int.pow_succ,Int.mul_comm (2 ^ j) 2,Int.mul_assoc]
    rw [collect,e,Int.mul_emod_right,if_neg (by decide),Int.mul_ediv_cancel_left _ (by decide),collect_mul j]
    rfl
theorem collect_shift (low : Nat) : ∀ (k i : Nat) (t : Int),collect (low + i) k t = (collect i k t).map (low + ·)
  | 0,_,_ => rfl
  | k + 1,i,t => by
    rw [collect,collect,List.map_append,<- collect_shift low k (i + 1)]
    split <;> rfl
theorem collect_mod : ∀ (k i : Nat) (a y : Int),collect i k (a + 2 ^ k * y) = collect i k a
  | 0,_,_,_ => rfl
  | k + 1,i,a,y => by
    rw [collect,collect,Int.pow_succ,Int.mul_comm (2 ^ k) 2,Int.mul_assoc,Int.add_mul_emod_self_left,Int.add_mul_ediv_left _ _ (by decide),collect_mod k]
theorem collect_bits : ∀ one : Fin 32,collect 0 5 (one.1 : Int) = bits5 one.1 := by decide +kernel
theorem collect5 {one : Nat} (h : one < 32) (low : Nat) (y : Int) : collect low 5 (one + 32 * y) = (bits5 one).map (low + ·) :=
  (collect_mod 5 low one y).trans ((collect_shift low 5 0 one).trans (congrArg (List.map (low + ·)) (collect_bits ⟨one,h⟩)))
end
end
section
open PySem.StrLaws PySem.Builtin.Str
theorem collect_low {one low : Nat} (h1 : one < 32) (h2 : low < 28) : collect 0 32 ((one : Int) * 2 ^ low) = (bits5 one).map (low + ·) := by
  have z : (one : Int) / 2 ^ 5 = 0 := Int.ediv_eq_zero_of_lt (Int.natCast_nonneg one) (Int.ofNat_lt.mpr h1)
  have k := collect5 h1 low 0
  rw [Int.mul_zero,Int.add_zero] at k
  have e : 32 = low + (5 + (27 - low)) := (congrArg (5 + ·) (Nat.add_sub_cancel' (Nat.le_of_lt_succ h2)).symm).trans (Nat.add_left_comm 5 low (27 - low))
  rw [Int.mul_comm,e,collect_app,collect_mul,Int.mul_ediv_cancel_left _ (Int.ne_of_gt (pow_pos' low)),collect_app,z,collect_zero,List.append_nil,List.nil_append,Nat.zero_add]
  exact k
theorem collect_flags {one low : Nat} (h1 : one < 32) (h2 : low < 28) (c : Int) : collect 0 32 (one * 2 ^ low + 2 ^ 32 * c) = (bits5 one).map (low + ·) :=
  (collect_mod 32 0 _ c).trans (collect_low h1 h2)
theorem low_lt {one low : Nat} (h1 : one < 32) (h2 : low < 28) : 0 ≤ (one : Int) * 2 ^ low /\ (one : Int) * 2 ^ low < 2 ^ 32 := by
  have : one * 2 ^ low < 32 * 2 ^ 27 := Nat.mul_lt_mul_of_lt_of_le h1 (Nat.pow_le_pow_right (by decide) (Nat.le_of_lt_succ h2)) (Nat.two_pow_pos _)
  have e : ((one * 2 ^ low : Nat) : Int) = one * 2 ^ low := by rw [Int.natCast_mul,Int.natCast_pow]; rfl
  exact e ▸ ⟨Int.natCast_nonneg _,Int.ofNat_lt.mpr this⟩
theorem flags_div {one low : Nat} (h1 : one < 32) (h2 : low < 28) (c : Int) : ((one : Int) * 2 ^ low + 2 ^ 32 * c) / 2 ^ 32 = c := by
  have k := low_lt h1 h2
  rw [Int.add_mul_ediv_left _ _ (by decide),Int.ediv_eq_zero_of_lt k.1 k.2,Int.zero_add]
theorem bits5_nil {one : Nat} (h : one < 32) : bits5 one = [] ↔ one = 0 := by
  have : (List.range 32).all (fun o => decide (bits5 o = []) == decide (o = 0)) = true := by decide +kernel
  have := List.all_eq_true.mp this one (List.mem_range.mpr h)
  simpa using this
theorem bits5_lt {one k : Nat} (h : k ∈ bits5 one) : k < 5 := by
  unfold bits5 at h
  simpa using (List.mem_filter.mp h).1
theorem bits5_len (one : Nat) : (bits5 one).length ≤ 5 := by
  unfold bits5
  exact Nat.le_trans (List.length_filter_le _ _) (by simp)
noncomputable abbrev lowW (one low : Nat) : List (List Nat) := (bits5 one).map fun k => wordL (low + k)
theorem lowW_eq (one low : Nat) : ((bits5 one).map (low + ·)).map wordL = lowW one low := by rw [List.map_map]; rfl
section
variable {rest : List (Str × FnX)}
theorem flags_low {n one low : Nat} (h1 : one < 32) (h2 : low < 28) : R rest (n + 1) 0 [.int (one * 2 ^ low)] = some (.str (mk (joinC (textW one low)))) := by
  have hc := collect_flags h1 h2 0
  have hd := flags_div h1 h2 0
  rw [Int.mul_zero,Int.add_zero] at hc hd
  by_cases h : one = 0
  · subst h
    exact flags_run (.inl ⟨Int.zero_mul _,rfl⟩)
  · exact flags_run (.inr (.inl ⟨Int.mul_ne_zero (Int.ofNat_ne_zero.mpr h) (Int.ne_of_gt (pow_pos' low)),hd,(if_neg h).trans ((lowW_eq one low).symm.trans (congrArg (List.map wordL) hc.symm))⟩))
theorem far_of {n one low : Nat} {c : Int} {w : List Nat} (h1 : one < 32) (h2 : low < 28) (hc : c ≠ 0) (hw : baseText "0x" 16 (2 ^ 32 * c) = mk w) (hl : w.length ≤ 40) : R rest (n + 1) 0 [.int (one * 2 ^ low + 2 ^ 32 * c)] = some (.str (mk (joinC (lowW one low ++ [w])))) :=
  flags_run (.inr (.inr (by
    rw [flags_div h1 h2 c,collect_flags h1 h2 c,lowW_eq]
    exact ⟨hc,w,hw,hl,rfl⟩)))
theorem flags_far {n one low far : Nat} (h1 : one < 32) (h2 : low < 28) (h3 : 32 ≤ far) (h4 : far < 63) (neg : Bool) :
    R rest (n + 1) 0 [.int (one * 2 ^ low + (if neg then -(2 ^ far) else 2 ^ far))] = some (.str (mk (joinC (lowW one low ++ [if neg then 45 :: wordL far else wordL far])))) := by
  obtain ⟨w1,w2⟩ := hex_word h3 h4
  have hg := (word_good (Nat.lt_succ_of_lt h4)).2.2.1
  have e : (2 : Int) ^ far = 2 ^ 32 * 2 ^ (far - 32) := by rw [<- pow_add',Nat.add_sub_cancel' h3]
  have hp := Int.ne_of_gt (pow_pos' (far - 32))
  rw [e] at w1 w2
  rw [<- Int.mul_neg] at w2
  cases neg with
  | true => exact (congrArg (fun z => R rest (n + 1) 0 [.int (one * 2 ^ low + z)]) ((congrArg (-·) e).trans (Int.mul_neg ..).symm)).trans (far_of h1 h2 (Int.neg_ne_zero.mpr hp) w2 (Nat.le_trans (Nat.succ_le_succ hg) (by decide)))
  | false => exact (congrArg (fun z => R rest (n + 1) 0 [.int (one * 2 ^ low + z)]) e).trans (far_of h1 h2 hp (w1.trans (word_mk far)) (Nat.le_trans hg (by decide)))
section
variable {ε : Ev} {n one low : Nat} {ab : Int} {x y z : Option D} {named ws us : List (List Nat)}
noncomputable abbrev stT (one low : Nat) (ab : Int) (x y z k : Option D) : Loc := [di one,di low,di ab,x,y,z,k]
theorem bit_test (m : Nat) : (((m % 2 : Nat) : Int) != 0) = decide (m % 2 = 1) := by
  rcases Nat.mod_two_eq_zero_or_one m with h | h <;> rw [h] <;> rfl
theorem shr_cast (a k : Nat) : binInt .RShift (a : Int) (k : Int) = some ((a / 2 ^ k : Nat) : Int) := by
  rw [Int.natCast_ediv,Int.natCast_pow]
  exact shr_bin (Int.natCast_nonneg a)
theorem t_bit {k : Nat} : evT ε (.bin .BitAnd (.bin .RShift (.var 0) (.var 6)) (.lit (.int 1))) (stT one low ab x y z (di k)) = some (decide (one / 2 ^ k % 2 = 1)) :=
  tv_bin (evBin (evV rfl) (evV rfl) (shr_cast one k)) rfl (congrArg (Option.map fun z => D.v (.int z)) (and_1 _)) (congrArg some (bit_test _))
theorem t_words (h2 : low < 28) : evE (EvR rest (n + 1)) (.comp (.cons (.n 6) (.bi .range (.cons (.lit (.int 5)) .nil)) (.cons (.bin .BitAnd (.bin .RShift (.var 0) (.var 6)) (.lit (.int 1))) .nil) (.done (.call 8 (.cons (.bin .Add (.var 1) (.var 6)) .nil))))) (stT one low ab x y z none) = some (.t (tx (lowW one low))) :=
  (comp_A (as:=List.range 5) (v:=fun k : Nat => V.int k) (st:=fun k : Nat => stT one low ab x y z (di k)) (p:=fun k => decide (one / 2 ^ k % 2 = 1)) (f:=fun k => .v (wV (low + k))) (g:=fun k => wV (low + k)) (range_iv (n:=5) rfl (le_lim (by decide))) (fun _ _ => rfl) (fun _ _ => and_one t_bit)
    (fun k hk _ => ⟨evE_call (evXs_cons (evBin (z:=((low + k : Nat) : Int)) (evV rfl) (evV rfl) rfl) rfl) rfl (word_run (Nat.lt_trans (Nat.add_lt_add h2 (List.mem_range.mp hk)) (by decide))),rfl⟩) (le_lim (by decide))).trans
    (congrArg (fun l => some (D.t l)) ((List.map_congr_left fun k _ => congrArg V.str (word_mk (low + k))).trans (List.map_map (f:=fun k => wordL (low + k)) (g:=sT)).symm))
theorem t_1 (h2 : low < 28) (hn : named.length ≤ 10) : evS (EvR rest (n + 1)) s1_law_text (stT one low ab (lT named) x y none) = some (.next,stT one low ab (lT named) (lT (lowW one low ++ named)) y none) :=
  do_asg (ev_bin (t_words h2) (evV rfl) ((if_pos (e:=none) (Nat.le_trans (Nat.add_le_add (map_lim (map_lim (bits5_len one))) (map_lim hn)) (le_lim (by decide)))).trans (congrArg (fun l => some (D.t l)) List.map_append.symm))) rfl rfl
theorem t_or (hl : us.length ≤ lim) (hws : ws = if us = [] then [[48,120,48]] else us) : ∃ d : D,evE ε (.bop .Or (.cons (.var 4) (.cons (.lst (.cons (.lit (.str ("0x0" : Str))) .nil)) .nil))) (stT one low ab x (lT us) y z) = some d /\ d.listOnly = some (tx ws) := by
  cases us with
  | nil => exact ⟨.t [sT [48,120,48]],or_2 (evV rfl) rfl (ev_lst (evXs_cons (t_lit (ρ:=stT one low ab x (lT []) y z) (by rw [Str.ofString_eq_toList]; rfl) (Nat.le_refl 3)).1 rfl) rfl (le_lim (show 1 ≤ 1000000 by decide))),hws ▸ rfl⟩
  | cons w r => exact ⟨.v (.list (tx (w :: r))),or_1 (evV rfl) (if_pos (map_lim hl)),hws ▸ rfl⟩
theorem t_2 (hl : us.length ≤ lim) (hws : ws = if us = [] then [[48,120,48]] else us) (h1 : ws.length ≤ 100) (h2 : ∀ w ∈ ws,w.length ≤ 40) : evS ε s2_law_text (stT one low ab x (lT us) y z) = some (.next,stT one low ab x (lT us) (some (.v (sT (joinC ws)))) z) := by
  obtain ⟨d,e1,e2⟩ := t_or (ε:=ε) (one:=one) (low:=low) (ab:=ab) (x:=x) (y:=y) (z:=z) hl hws
  exact do_asg (ev_me rfl (evXs_cons e1 rfl) (join_ev h1 h2 e2)) rfl rfl
theorem t_4 (h1 : one < 32) (h2 : low < 28) (hfl : R rest (n + 1) 0 [.int (one * 2 ^ low + ab)] = some (.str (mk (joinC ws)))) : evS (EvR rest (n + 1)) s4_law_text (stT one low ab x y (some (.v (sT (joinC ws)))) z) = some (.next,stT one low ab x y (some (.v (sT (joinC ws)))) z) :=
  if_no (ev_cmp (evE_call (evXs_cons (evBin (evBin (evV rfl) (evV rfl) (shl_bin (Nat.le_trans (Nat.add_le_add (bits_le (k:=5) (Int.natCast_nonneg one) (Int.ofNat_lt.mpr h1)) (Nat.le_of_lt h2)) (by decide)))) (evV rfl) rfl) rfl) rfl hfl) (evV rfl) (congrArg (fun b => some (!b)) (BEq.rfl : (mk (joinC ws) == mk (joinC ws)) = true))) go_nil
theorem t_5 (h : (joinC ws).length ≤ 1000) (hne : ws ≠ []) : evE ε (.bin .Add (.bin .Add (.lit (.str (" " : Str))) (.var 5)) (.lit (.str ("," : Str)))) (stT one low ab x y (some (.v (sT (joinC ws)))) z) = some (.v (.str (mk (flat ws)))) :=
  (t_add (t_add (t_lit (l:=[32]) (by rw [Str.ofString_eq_toList]; rfl) (Nat.le_refl 1)) ⟨evV rfl,h⟩) (t_lit (l:=[44]) (by rw [Str.ofString_eq_toList]; rfl) (Nat.le_refl 1))).1.trans (congrArg (fun l => some (D.v (sT l))) (flat_joinC hne).symm)
theorem t_wl (h2 : low < 28) (hws : ws = if lowW one low ++ named = [] then [[48,120,48]] else lowW one low ++ named) (hn : named.length ≤ 10) (hnl : ∀ w ∈ named,w.length ≤ 40) : ws.length ≤ 15 /\ (∀ w ∈ ws,w.length ≤ 40) /\ ws ≠ [] := by
  by_cases h : lowW one low ++ named = []
  · rw [if_pos h] at hws
    subst hws
    exact ⟨by decide,by decide,List.cons_ne_nil _ _⟩
  · rw [if_neg h] at hws
    subst hws
    refine ⟨Nat.le_trans (Nat.le_of_eq List.length_append) (Nat.add_le_add (map_lim (bits5_len one)) hn),List.forall_mem_append.mpr ⟨List.forall_mem_map.mpr fun k hk => ?_,hnl⟩,h⟩
    exact Nat.le_trans (word_good (Nat.lt_trans (Nat.add_lt_add h2 (bits5_lt hk)) (by decide))).2.2.1 (by decide)
end
theorem text_of {n one low : Nat} (h1 : one < 32) (h2 : low < 28) {ab : Int} {named ws : List (List Nat)} (hws : ws = if lowW one low ++ named = [] then [[48,120,48]] else lowW one low ++ named) (hn : named.length ≤ 10) (hnl : ∀ w ∈ named,w.length ≤ 40)
    (hfl : R rest (n + 1) 0 [.int (one * 2 ^ low + ab)] = some (.str (mk (joinC ws)))) :
    R rest (n + 2) 9 [.int one,.int low,.int ab,.list (named.map fun w => V.str (mk w))] = some (.str (mk (flat ws))) := by
  obtain ⟨k1,k2,k3⟩ := t_wl h2 hws hn hnl
  have hl : (lowW one low ++ named).length ≤ lim := Nat.le_trans (Nat.le_of_eq List.length_append) (Nat.le_trans (Nat.add_le_add (map_lim (bits5_len one)) hn) (le_lim (by decide)))
  exact run_ret rfl rfl (go_next (t_1 h2 hn) (go_next (t_2 hl hws (Nat.le_trans k1 (by decide)) k2) (go_next (t_4 h1 h2 hfl) (go_ret (do_ret (.v (.str (mk (flat ws)))) (t_5 (Nat.le_trans (joinC_len k2) (Nat.le_trans (Nat.mul_le_mul_left 42 k1) (by decide))) k3) rfl)))))
theorem text_low {n one low : Nat} (h1 : one < 32) (h2 : low < 28) : R rest (n + 2) 9 [.int one,.int low,.int 0,.list []] = some (.str (mk (flat (textW one low)))) := by
  have := text_of (rest:=rest) (n:=n) (one:=one) (low:=low) (ab:=0) (named:=[]) (ws:=textW one low) h1 h2 ?_ (by simp) (by simp) (by rw [Int.add_zero]; exact flags_low h1 h2)
  · exact this
  · rw [List.append_nil,textW]
    by_cases h : one = 0
    · subst h; rfl
    · rw [if_neg h,if_neg (fun q => h ((bits5_nil h1).mp (by simpa using q)))]
theorem text_far {n one low far : Nat} (h1 : one < 32) (h2 : low < 28) (h3 : 32 ≤ far) (h4 : far < 63) (neg : Bool) :
    R rest (n + 2) 9 [.int one,.int low,.int (if neg then -(2 ^ far) else 2 ^ far),.list [.str (mk (if neg then 45 :: wordL far else wordL far))]] = some (.str (mk (flat (lowW one low ++ [if neg then 45 :: wordL far else wordL far])))) := by
  have hg := (word_good (p:=far) (by lia)).2.2.1
  have := text_of (rest:=rest) (n:=n) (one:=one) (low:=low) (ab:=if neg then -(2 ^ far) else 2 ^ far) (named:=[if neg then 45 :: wordL far else wordL far]) (ws:=lowW one low ++ [if neg then 45 :: wordL far else wordL far]) h1 h2 (if_neg (by simp)).symm (by simp) (by intro w hw; simp at hw; rw [hw]; cases neg <;> simp <;> lia) (flags_far h1 h2 h3 h4 neg)
  exact this
end
end
section
open PySem.StrLaws PySem.Builtin.Str
theorem join_S (z : List Nat) : ∀ ps : List (List Nat),Str.join (mk z) (ps.map mk) = mk (joinS z ps)
  | [] => rfl
  | [w] => rfl
  | w :: v :: r => by
    show mk w ++ mk z ++ Str.join (mk z) ((v :: r).map mk) = _
    rw [join_S z (v :: r),mk_app,mk_app,joinS]
theorem joinS_any {y z : List Nat} {s : Str} : ∀ {ps : List (List Nat)},[s] = ps.map mk -> joinS y ps = joinS z ps
  | [],_ => rfl
  | [p],_ => rfl
  | p :: q :: r,e => absurd (congrArg List.length e) (Nat.ne_of_lt (Nat.succ_lt_succ (Nat.succ_pos _)))
theorem replace_S {c : Nat} {y z : List Nat} {ps : List (List Nat)} (h : FreeP c y ps) : Txt.replace (mk (joinS (c :: y) ps)) (mk (c :: y)) (mk z) = mk (joinS z ps) := by
  obtain ⟨f,hc,hn⟩ := occ_tight (mk (joinS (c :: y) ps)) (mk (c :: y)) (by rw [mk_len]; simp)
  rw [mk_len] at hc hn
  have key := parts_gen (x:=joinS (c :: y) ps) ps 0 _ f h rfl hc hn
  unfold Txt.replace
  have hy : ((mk (c :: y)).length == 0) = false := by rw [mk_len]; rfl
  rw [hy,Bool.false_and,Bool.or_false,mk_len]
  refine ite_both (fun he => ?_) fun _ => by rw [glued_eq_join,partsBetween_eq,mk_len,key,join_S]
  rw [List.isEmpty_iff.mp he] at key
  have e1 : [mk (joinS (c :: y) ps)] = ps.map mk := (congrArg (fun s => [s]) (sub_whole _).symm).trans key
  exact congrArg mk (joinS_any e1)
noncomputable def piecesT : List (List Nat) -> List (List Nat)
  | [] => []
  | [w] => [w ++ [44]]
  | w :: v :: r => w :: piecesT (v :: r)
theorem pieces_ne {w : List Nat} {r : List (List Nat)} : ∃ a b,piecesT (w :: r) = a :: b := by
  cases r with
  | nil => exact ⟨_,_,rfl⟩
  | cons v r => exact ⟨_,_,rfl⟩
theorem pieces_join (y : List Nat) : ∀ (w : List Nat) (r : List (List Nat)),joinS (44 :: y ++ [32]) (piecesT (w :: r)) = w ++ [44] ++ (r.flatMap fun v => y ++ [32] ++ v ++ [44])
  | w,[] => by simp [piecesT,joinS]
  | w,v :: r => by
    obtain ⟨a,b,e⟩ := pieces_ne (w:=v) (r:=r)
    have ih := pieces_join y v r
    rw [piecesT,e,joinS,<- e,ih]
    simp
theorem pieces_free : ∀ {w : List Nat} {r : List (List Nat)},Good w -> (∀ v ∈ r,Good v) -> FreeP 44 [32] (piecesT (w :: r))
  | w,[],hw,_ => by
    intro k h
    have h32 : 32 ∈ (w ++ [44]).drop k := h.subset (by simp)
    have := List.mem_of_mem_drop h32
    simp at this
    exact hw.1 this
  | w,v :: r,hw,hr => by
    obtain ⟨a,b,e⟩ := pieces_ne (w:=v) (r:=r)
    have ih := pieces_free (w:=v) (r:=r) (hr v List.mem_cons_self) fun x hx => hr x (List.mem_cons_of_mem _ hx)
    rw [piecesT,e]
    rw [e] at ih
    exact ⟨hw.2.1,ih⟩
theorem joinS_head (z x : List Nat) : ∀ {ps : List (List Nat)},ps ≠ [] -> ∀ p r,ps = p :: r -> joinS z ((x ++ p) :: r) = x ++ joinS z ps
  | _,_,p,[],rfl => rfl
  | _,_,p,q :: r,rfl => by rw [joinS,joinS]; simp
theorem flat_pieces (w : List Nat) (r : List (List Nat)) : flat (w :: r) = 32 :: joinS [44,32] (piecesT (w :: r)) := by
  have h := pieces_join [] w r
  rw [show (44 :: ([] : List Nat) ++ [32]) = [44,32] from rfl] at h
  rw [h]
  have : ∀ r : List (List Nat),flat r = r.flatMap fun v => [] ++ [32] ++ v ++ [44] := by
    intro r
    induction r with
    | nil => rfl
    | cons v r ih => rw [flat,ih,List.flatMap_cons]; simp
  rw [flat,this r]
  simp
theorem join3_pieces (w : List Nat) (r : List (List Nat)) : join3 ((w :: r).map tok) = 32 :: joinS [44,46,46,46,32] (piecesT (w :: r)) := by
  have h := pieces_join dots w r
  rw [show (44 :: dots ++ [32]) = [44,46,46,46,32] from rfl] at h
  rw [h]
  have : ∀ (r : List (List Nat)) (w : List Nat),join3 ((w :: r).map tok) = tok w ++ r.flatMap fun v => dots ++ [32] ++ v ++ [44] := by
    intro r
    induction r with
    | nil => intro w; simp [join3]
    | cons v r ih =>
      intro w
      rw [List.map_cons,List.map_cons,join3,<- List.map_cons,ih v,List.flatMap_cons]
      simp
  rw [this r w]
  simp
theorem replace_flat {ws : List (List Nat)} (hne : ws ≠ []) (hg : ∀ w ∈ ws,Good w) : Txt.replace (mk (flat ws)) ", " ",... " = mk (join3 (ws.map tok)) := by
  have hz : (",... " : Str) = mk [44,46,46,46,32] := by rw [Str.ofString_eq_toList]; rfl
  rw [comma_str,hz]
  obtain ⟨w,r,rfl⟩ : ∃ w r,ws = w :: r := by
    cases ws with
    | nil => exact absurd rfl hne
    | cons w r => exact ⟨w,r,rfl⟩
  have hf := pieces_free (w:=w) (r:=r) (hg w List.mem_cons_self) fun v hv => hg v (List.mem_cons_of_mem _ hv)
  obtain ⟨a,b,e⟩ := pieces_ne (w:=w) (r:=r)
  rw [flat_pieces,join3_pieces]
  rw [e] at hf ⊢
  have h1 : ∀ z : List Nat,joinS z ((32 :: a) :: b) = 32 :: joinS z (a :: b) := fun z => by
    have := joinS_head z [32] (ps:=a :: b) (by simp) a b rfl
    simpa using this
  rw [<- h1,<- h1]
  refine replace_S ?_
  cases b with
  | nil =>
    intro k h
    cases k with
    | zero =>
      rw [List.drop_zero,List.cons_prefix_cons] at h
      exact absurd h.1 (by decide)
    | succ k => exact hf k (by simpa using h)
  | cons q b =>
    refine ⟨fun q => ?_,hf.2⟩
    rcases List.mem_cons.mp q with q | q
    · cases q
    · exact hf.1 q
noncomputable def subN : List Nat -> List Nat -> Bool
  | [],_ => true
  | _ :: _,[] => false
  | t :: ts,g :: gs => if t = g then subN ts gs else subN (t :: ts) gs
theorem sub_map {f : Nat -> List Nat} : ∀ {b a : List Nat},(∀ x ∈ a,∀ y ∈ b,f x = f y -> x = y) -> subB (a.map f) (b.map f) = subN a b
  | [],[],_ => rfl
  | _ :: _,[],_ => rfl
  | [],a :: as,_ => rfl
  | b :: bs,a :: as,h => by
    rw [List.map_cons,List.map_cons,subB,subN]
    by_cases e : a = b
    · subst e
      rw [if_pos rfl,if_pos rfl]
      exact sub_map fun x hx y hy => h x (List.mem_cons_of_mem _ hx) y (List.mem_cons_of_mem _ hy)
    · rw [if_neg e,if_neg (fun q => e (h a List.mem_cons_self b List.mem_cons_self q))]
      rw [<- List.map_cons (f:=f)]
      exact sub_map fun x hx y hy => h x hx y (List.mem_cons_of_mem _ hy)
theorem subN_bits : (List.range 32).all (fun a => (List.range 32).all fun b => subN (bits5 a) (bits5 b) == (a &&& b == a)) = true := by decide +kernel
theorem sub_bits {a b : Nat} (ha : a < 32) (hb : b < 32) : subN (bits5 a) (bits5 b) = (a &&& b == a) := by
  have := List.all_eq_true.mp (List.all_eq_true.mp subN_bits a (List.mem_range.mpr ha)) b (List.mem_range.mpr hb)
  simpa using this
theorem low_good {one low : Nat} (h : low < 28) : ∀ w ∈ lowW one low,Good w /\ w.length ≤ 30 := fun w hw => by
  obtain ⟨k,hk,rfl⟩ := List.mem_map.mp hw
  have := bits5_lt hk
  have := word_good (p:=low + k) (by lia)
  exact ⟨this.1,this.2.2.1⟩
theorem low_inj {a b low : Nat} (h : low < 28) : ∀ x ∈ bits5 a,∀ y ∈ bits5 b,wordL (low + x) = wordL (low + y) -> x = y := fun x hx y hy e => by
  have := bits5_lt hx
  have := bits5_lt hy
  have := word_inj (p:=low + x) (q:=low + y) (by lia) (by lia) e
  lia
theorem textW_good {one low : Nat} (h : low < 28) : ∀ w ∈ textW one low,Good w /\ w.length ≤ 30 := fun w hw => by
  unfold textW at hw
  split at hw
  · simp at hw; subst hw; exact ⟨by decide,by simp⟩
  · exact low_good h w hw
theorem textW_ne {one low : Nat} (h : one < 32) : textW one low ≠ [] := by
  unfold textW
  split
  · simp
  · rename_i h0
    exact fun q => h0 ((bits5_nil h).mp (by simpa using q))
theorem sub_text {a b low : Nat} (ha : a < 32) (ha0 : a ≠ 0) (hb : b < 32) (h : low < 28) : subB (textW a low) (textW b low) = (a &&& b == a) := by
  by_cases hb0 : b = 0
  · subst hb0
    rw [Nat.and_zero]
    have : ((0 : Nat) == a) = false := by simpa using fun q : (0 : Nat) = a => ha0 q.symm
    rw [this]
    have e1 : textW 0 low = [[48,120,48]] := by simp [textW]
    rw [e1,textW,if_neg ha0]
    cases q : bits5 a with
    | nil => exact absurd ((bits5_nil ha).mp q) ha0
    | cons k r =>
      have hk : k ∈ bits5 a := by rw [q]; exact List.mem_cons_self
      have hk5 := bits5_lt hk
      have := (word_good (p:=low + k) (by lia)).2.2.2
      rw [List.map_cons,subB,if_neg this,subB]
  · rw [textW,if_neg ha0,textW,if_neg hb0,sub_map (f:=fun k => wordL (low + k)) (low_inj h),sub_bits ha hb]
theorem flat_len {ws : List (List Nat)} (h : ∀ w ∈ ws,w.length ≤ 40) : (flat ws).length ≤ 42 * ws.length := by
  induction ws with
  | nil => simp [flat]
  | cons w r ih =>
    have := h w List.mem_cons_self
    have := ih fun v hv => h v (List.mem_cons_of_mem _ hv)
    rw [flat]; simp; lia
theorem textW_len (one low : Nat) : (textW one low).length ≤ 5 := by
  unfold textW
  split
  · simp
  · rw [List.length_map]; exact bits5_len one
section
variable {rest : List (Str × FnX)}
theorem join3_end : ∀ {ps : List (List Nat)},ps ≠ [] -> join3 (ps ++ [[]]) = join3 ps ++ dots
  | [],h => absurd rfl h
  | [p],_ => List.append_nil _
  | p :: q :: r,_ => (congrArg (p ++ dots ++ ·) (join3_end (List.cons_ne_nil q r))).trans (List.append_assoc ..).symm
theorem join3_dots : ∀ {ps : List (List Nat)},ps ≠ [] -> dots ++ join3 ps ++ dots = join3 ([] :: (ps ++ [[]]))
  | [],h => absurd rfl h
  | p :: r,h => (List.append_assoc ..).trans (congrArg (dots ++ ·) (join3_end h).symm)
theorem ne_map {α β : Type} {f : α -> β} {l : List α} (h : l ≠ []) : l.map f ≠ [] := fun q => h (List.map_eq_nil_iff.mp q)
theorem match_sub {n a b low : Nat} (ha : a < 32) (ha0 : a ≠ 0) (hb : b < 32) (h : low < 28) :
    R rest (n + 1) 7 [.str (mk (dots ++ join3 ((textW a low).map tok) ++ dots)),.str (mk (flat (textW b low)))] = some (.bool (a &&& b == a)) := by
  have hg := textW_good (one:=a) h
  have hg2 := textW_good (one:=b) h
  rw [join3_dots (ne_map (textW_ne ha))]
  refine ell_join (Nat.succ_le_succ (Nat.le_trans (Nat.le_add_left 1 ((textW a low).map tok).length) (Nat.le_of_eq (List.length_append (bs:=[[]])).symm))) (Nat.le_trans (Nat.succ_le_succ (Nat.le_trans (Nat.le_of_eq List.length_append) (Nat.add_le_add_right (map_lim (textW_len a low)) 1))) (show 7 ≤ 20 by decide))
    (List.forall_mem_cons.mpr ⟨⟨List.not_mem_nil,Nat.zero_le _⟩,List.forall_mem_append.mpr ⟨List.forall_mem_map.mpr fun w hw => ⟨tok_free (hg w hw).1,Nat.le_trans (Nat.succ_le_succ (Nat.le_trans (Nat.le_of_eq List.length_append) (Nat.add_le_add_right (hg w hw).2 1))) (show 32 ≤ 2000 by decide)⟩,List.forall_mem_cons.mpr ⟨⟨List.not_mem_nil,Nat.zero_le _⟩,List.forall_mem_nil _⟩⟩⟩)
    (Nat.le_trans (flat_len fun w hw => Nat.le_trans (hg2 w hw).2 (by decide)) (Nat.le_trans (Nat.mul_le_mul_left 42 (textW_len b low)) (le_lim (by decide)))) ?_
  rw [List.map_cons,List.map_append,List.map_map]
  exact (ell_A (gs:=textW b low) (toks:=textW a low) (fun w hw => (hg2 w hw).1) (fun w hw => (hg w hw).1)).trans (sub_text ha ha0 hb h)
end
end
section
noncomputable abbrev iV (x : Nat) : V := .int (x : Int)
noncomputable abbrev intV (l : List Nat) : List V := l.map iV
theorem allInts_intV : ∀ l : List Nat,allInts (intV l) = some (l.map fun x : Nat => (x : Int))
  | [] => rfl
  | x :: l => congrArg (Option.map ((x : Int) :: ·)) (allInts_intV l)
theorem intsV_range : ∀ (n a : Nat),intsV (a : Int) n = (List.range' a n).map iV
  | 0,_ => rfl
  | n + 1,a => congrArg (V.int a :: ·) (intsV_range n (a + 1))
theorem intsV_0 (n : Nat) : intsV 0 n = intV (List.range n) := (intsV_range n 0).trans (congrArg intV List.range_eq_range'.symm)
theorem range_ev {ε : Ev} {ρ : Loc} {x : X} {n : Nat} (hx : evE ε x ρ = some (.v (.int n))) (hn : n ≤ lim) : evI ε (.bi .range (.cons x .nil)) ρ = some (intV (List.range n)) :=
  (bindK hx (bindK rfl ((if_pos ⟨Int.natCast_nonneg n,Int.ofNat_le.mpr hn⟩).trans (congrArg some (intsV_0 n)))) : evI ε (.bi .range (.cons x .nil)) ρ = _)
theorem any_int (l : List Nat) (x : Nat) : (l.map fun y : Nat => (y : Int)).any (· == (x : Int)) = decide (x ∈ l) := by
  rw [Bool.eq_iff_iff,List.any_eq_true,decide_eq_true_eq]
  exact ⟨fun ⟨y,hy,e⟩ => (List.mem_map.mp hy).elim fun z h => Int.ofNat.inj (h.2.trans (eq_of_beq e)) ▸ h.1,fun h => ⟨x,List.mem_map.mpr ⟨x,h,rfl⟩,BEq.rfl⟩⟩
theorem in_ints {l : List Nat} {x : Nat} (hl : l.length ≤ lim) : inD (.v (.int x)) (.v (.list (intV l))) = some (decide (x ∈ l)) :=
  (bindK (allInts_intV l) ((if_pos (map_lim hl)).trans (congrArg some (any_int l x))) : (allInts (intV l)).bind _ = _)
theorem eq_int (a b : Nat) : cmpD .Eq (.v (.int a)) (.v (.int b)) = some (a == b) := by
  refine congrArg some (?_ : ((a : Int) == (b : Int)) = (a == b))
  rw [Bool.eq_iff_iff,beq_iff_eq,beq_iff_eq]
  exact ⟨Int.ofNat.inj,congrArg Int.ofNat⟩
section
variable {ε : Ev} {ρ : Loc}
theorem or_two {a b : X} {p q : Bool} (h1 : evT ε a ρ = some p) (h2 : evT ε b ρ = some q) : evA ε .Or (.cons a (.cons b .nil)) ρ = some (p || q) := by
  cases p with
  | true => exact (bindK h1 (if_pos rfl) : evA ε .Or (.cons a (.cons b .nil)) ρ = _)
  | false =>
    refine (bindK h1 ((if_neg (by decide)).trans (bindK h2 ?_)) : evA ε .Or (.cons a (.cons b .nil)) ρ = _)
    cases q <;> rfl
end
theorem str_empty (l : List Nat) (h : l ≠ []) : eqD (.str (mk l)) (.str ("" : Str)) = some false :=
  congrArg some (beq_eq_false_iff_ne.mpr fun q => h (List.length_eq_zero_iff.mp (((mk_len l).symm.trans (congrArg Str.length q)).trans (by rw [Str.ofString_eq_toList]; rfl))))
theorem flat_ne {ws : List (List Nat)} (h : ws ≠ []) : flat ws ≠ [] := by
  cases ws with
  | nil => exact absurd rfl h
  | cons w r => exact List.cons_ne_nil _ _
theorem both (b : Bool) : (!(b == true) && !(b == false)) = false := by cases b <;> rfl
theorem modZ (a : Int) (b : Nat) (hb : b ≠ 0) : binD .Mod (.v (.int a)) (.v (.int b)) = some (.v (.int (((a % b).toNat : Nat) : Int))) :=
  congrArg (Option.map fun z => D.v (.int z)) ((if_pos (Int.ofNat_ne_zero.mpr hb)).trans (congrArg some ((Int.fmod_eq_emod_of_nonneg a (Int.natCast_nonneg b)).trans (Int.toNat_of_nonneg (Int.emod_nonneg a (Int.ofNat_ne_zero.mpr hb))).symm)))
theorem divZ (a : Int) (b : Nat) (hb : b ≠ 0) (hbb : bits (b : Int) < 9000) : binD .FloorDiv (.v (.int a)) (.v (.int b)) = some (.v (.int (a / b))) :=
  congrArg (Option.map fun z => D.v (.int z)) ((if_pos ⟨Int.ofNat_ne_zero.mpr hb,hbb⟩).trans (congrArg some (Int.fdiv_eq_ediv_of_nonneg a (Int.natCast_nonneg b))))
theorem addZ (a b : Int) : binD .Add (.v (.int a)) (.v (.int b)) = some (.v (.int (a + b))) := rfl
theorem subZ (a b : Int) : binD .Sub (.v (.int a)) (.v (.int b)) = some (.v (.int (a - b))) := rfl
theorem mulZ {a b : Int} (h : bits a + bits b ≤ 134217728) : binD .Mult (.v (.int a)) (.v (.int b)) = some (.v (.int (a * b))) := congrArg (Option.map fun z => D.v (.int z)) (mul_bin h)
theorem pow_any {x : Int} (k : Nat) (hx : bits x ≤ 2) (hk : k ≤ 10000) : binD .Pow (.v (.int x)) (.v (.int k)) = some (.v (.int (x ^ k))) :=
  congrArg (Option.map fun z => D.v (.int z)) (if_pos ⟨Int.natCast_nonneg k,Int.ofNat_le.mpr (Nat.le_trans (Nat.mul_le_mul hx hk) (show 2 * 10000 ≤ 134217728 by decide))⟩)
theorem powZ (k : Nat) (hk : k ≤ 10000) : binD .Pow (.v (.int 2)) (.v (.int k)) = some (.v (.int (2 ^ k))) := pow_any k (by decide) hk
theorem div_told {a b q r : Int} (h : a = b * q + r) (h0 : 0 ≤ r) (h1 : r < b) : a.fdiv b = q /\ a.fmod b = r :=
  told (Int.lt_of_le_of_lt h0 h1) h0 h1 (by rw [h,Int.mul_comm])
theorem div_told_neg {a b q r : Int} (h : a = b * q + r) (h0 : r ≤ 0) (h1 : b < r) : a.fdiv b = q /\ a.fmod b = r := by
  have := div_told (a:=-a) (b:=-b) (q:=q) (r:=-r) (by rw [h,Int.neg_mul,Int.neg_add]) (Int.neg_nonneg_of_nonpos h0) (Int.neg_lt_neg h1)
  have f := fmod_neg_of a b
  rw [f.1,f.2,this.1,this.2]
  exact ⟨rfl,Int.neg_neg r⟩
theorem last_app {u l : List Nat} (h : l ≠ []) : (u ++ l).getLast? = l.getLast? := by
  rw [List.getLast?_append,List.getLast?_eq_some_getLast h]; rfl
theorem alone_flat {ws : List (List Nat)} (hne : ws ≠ []) (hg : ∀ w ∈ ws,Good w /\ w ≠ []) : ∃ b d,Alone (flat ws) b d := by
  have hno := flat_free fun w hw => (hg w hw).1
  have hl := hg _ (List.getLast_mem hne)
  have od : flat ws = flat ws.dropLast ++ [32] ++ ws.getLast hne ++ [44] := (congrArg flat (List.dropLast_concat_getLast hne).symm).trans ((flat_app _ _).trans (by
    show _ ++ ((32 :: (_ ++ [44])) ++ []) = _
    rw [List.append_nil,List.append_assoc,List.append_assoc]; rfl))
  generalize ws.getLast hne = l at hl od
  generalize flat ws.dropLast ++ [32] = u at od
  have hd : ∀ x,(u ++ l).getLast? = some x -> x ≠ 44 := fun x hx q => hl.1.2.1 (List.mem_of_getLast? ((last_app hl.2).symm.trans (q ▸ hx)))
  cases ws with
  | nil => exact absurd rfl hne
  | cons w r =>
    have hw := hg w List.mem_cons_self
    cases w with
    | nil => exact absurd rfl hw.2
    | cons a w => exact ⟨a :: (w ++ [44] ++ flat r),u ++ l,rfl,od,hno,fun x hx q => hw.1.1 ((Option.some.inj hx).trans q ▸ List.mem_cons_self),hd,Nat.succ_le_succ (Nat.succ_le_succ (Nat.le_trans (Nat.le_add_left 1 w.length) (Nat.le_trans (Nat.le_of_eq (List.length_append (bs:=[44])).symm) (Nat.le_trans (Nat.le_add_right _ _) (Nat.le_of_eq List.length_append.symm)))))⟩
noncomputable abbrev okV (n : Nat) (v : V) : Prop := v.py.canLay0 = true /\ v.py.depth ≤ n
theorem ok_all {n : Nat} : ∀ l : List V,(∀ v ∈ l,okV n v) -> PyData.canLayAll0 (V.pys l) = true /\ PyData.depthAll (V.pys l) ≤ n
  | [],_ => ⟨rfl,Nat.zero_le _⟩
  | v :: l,h => by
    have h1 := h v List.mem_cons_self
    have h2 := ok_all l fun x hx => h x (List.mem_cons_of_mem _ hx)
    rw [V.pys,PyData.canLayAll0,PyData.depthAll,h1.1,h2.1]
    exact ⟨rfl,Nat.max_le.mpr ⟨h1.2,h2.2⟩⟩
theorem ok_list {n : Nat} {l : List V} (h : ∀ v ∈ l,okV n v) : okV (n + 1) (.list l) := by
  have k := ok_all l h
  show PyData.canLay0 (.list (V.pys l)) = true /\ PyData.depth (.list (V.pys l)) ≤ _
  rw [PyData.canLay0,PyData.depth]
  exact ⟨k.1,Nat.succ_le_succ k.2⟩
theorem ok_tup {n : Nat} {l : List V} (h : ∀ v ∈ l,okV n v) : okV (n + 1) (.tup l) := by
  have k := ok_all l h
  show PyData.canLay0 (.tuple (V.pys l)) = true /\ PyData.depth (.tuple (V.pys l)) ≤ _
  rw [PyData.canLay0,PyData.depth]
  exact ⟨k.1,Nat.succ_le_succ k.2⟩
theorem ok_int (i : Int) : okV 0 (.int i) := ⟨rfl,Nat.le_refl _⟩
theorem eqv_all {α : Type} [BEq α] {v w : α -> V} (he : ∀ a b,(v a).py.eqv (w b).py = (a == b)) : ∀ l m : List α,PyData.eqvAll (V.pys (l.map v)) (V.pys (m.map w)) = (l == m)
  | [],[] => rfl
  | [],_ :: _ => rfl
  | _ :: _,[] => rfl
  | a :: l,b :: m => by
    show (PyData.eqv (v a).py (w b).py && PyData.eqvAll (V.pys (l.map v)) (V.pys (m.map w))) = (a == b && l == m)
    rw [he,eqv_all he l m]
theorem shaped_ok {n : Nat} {v : V} (h : okV n v) (hn : n ≤ 64) : SeqAt.shaped v.py = true := by
  unfold SeqAt.shaped
  rw [h.1]; simp; have := h.2; lia
theorem eq_lists {α : Type} [BEq α] {n : Nat} {v : α -> V} (l m : List α) (he : ∀ a b,(v a).py.eqv (v b).py = (a == b)) (ho : ∀ a,okV n (v a)) (hn : n < 64) : eqD (.list (l.map v)) (.list (m.map v)) = some (l == m) := by
  have h1 : ∀ l : List α,SeqAt.shaped (V.list (l.map v)).py = true := fun l => shaped_ok (n:=n + 1) (ok_list (List.forall_mem_map.mpr fun a _ => ho a)) hn
  refine (if_pos ⟨h1 l,h1 m⟩ : (if SeqAt.shaped (V.list (l.map v)).py /\ SeqAt.shaped (V.list (m.map v)).py then some ((V.list (l.map v)).py.eqv (V.list (m.map v)).py) else none) = _).trans (congrArg some ?_)
  show PyData.eqv (.list (V.pys (l.map v))) (.list (V.pys (m.map v))) = _
  rw [PyData.eqv]
  exact eqv_all he l m
theorem eq_zs (l m : List Int) : eqD (.list (l.map V.int)) (.list (m.map V.int)) = some (l == m) := eq_lists l m (fun _ _ => rfl) (fun _ => ok_int _) (by decide)
theorem mod_nat (a b : Nat) (hb : b ≠ 0) : binD .Mod (.v (.int a)) (.v (.int b)) = some (.v (.int ((a % b : Nat) : Int))) := congrArg (Option.map fun z => D.v (.int z)) (mod_bin (Int.ofNat_ne_zero.mpr hb))
theorem lt_int (a b : Nat) : cmpD .Lt (.v (.int a)) (.v (.int b)) = some (decide (a < b)) := congrArg some (decide_eq_decide.mpr Int.ofNat_lt)
end
noncomputable def nm_law_meet : List Str := ("one" : Str) :: ("other" : Str) :: ("way" : Str) :: ("apart" : Str) :: []
noncomputable def s1_law_meet : S := (.asg (.n 3) (.bin .BitXor (.var 0) (.var 1)))
noncomputable def s2_law_meet : S := (.ret (.bin .BitAnd (.var 0) (.var 1)))
noncomputable def s3_law_meet : S := (.ife (.bop .Or (.cons (.cmp .Eq (.var 2) (.lit (.int 0))) (.cons (.cmp .Eq (.var 3) (.lit (.int 0))) .nil))) (.cons s2_law_meet .nil) .nil)
noncomputable def s4_law_meet : S := (.ret (.bin .Mod (.var 0) (.bin .BitAnd (.var 3) (.neg (.var 3)))))
noncomputable def s5_law_meet : S := (.ife (.cmp .Eq (.var 2) (.lit (.int 1))) (.cons s4_law_meet .nil) .nil)
noncomputable def s6_law_meet : S := (.ret (.bin .Sub (.var 0) (.bin .Mod (.var 0) (.bin .Pow (.lit (.int 2)) (.meth .bitLength (.var 3) .nil)))))
noncomputable def tm_law_meet : Ss := (.cons s1_law_meet (.cons s3_law_meet (.cons s5_law_meet (.cons s6_law_meet .nil))))
noncomputable def nm_law_share : List Str := ("x" : Str) :: ("width" : Str) :: ("size" : Str) :: []
noncomputable def s1_law_share : S := (.asg (.n 2) (.bin .Add (.bin .Pow (.lit (.int 2)) (.var 1)) (.bin .Mod (.bin .FloorDiv (.bi .abs (.cons (.var 0) .nil)) (.lit (.int 32))) (.bin .Pow (.lit (.int 2)) (.var 1)))))
noncomputable def s2_law_share : S := (.ret (.ite (.cmp .Lt (.var 0) (.lit (.int 0))) (.neg (.var 2)) (.var 2)))
noncomputable def tm_law_share : Ss := (.cons s1_law_share (.cons s2_law_share .nil))
noncomputable def nm_law_family : List Str := ("numbers" : Str) :: ("way" : Str) :: ("width" : Str) :: ("drawn" : Str) :: ("family" : Str) :: ("first" : Str) :: ("second" : Str) :: ("one" : Str) :: ("share" : Str) :: ("x" : Str) :: ("other" : Str) :: ("part" : Str) :: []
noncomputable def s1_law_family : S := (.asg (.t [5,6]) (.slc (.var 0) .no (.lit (.int 2)) .no))
noncomputable def s2_law_family : S := (.own 3 (.comp (.cons (.n 9) (.var 0) .nil (.done (.tup (.cons (.bin .Mod (.var 9) (.lit (.int 32))) (.cons (.call 12 (.cons (.var 9) (.cons (.var 2) .nil))) .nil)))))))
noncomputable def s3_law_family : S := (.app 3 (.tup (.cons (.call 11 (.cons (.bin .Mod (.var 5) (.lit (.int 32))) (.cons (.bin .Mod (.var 6) (.lit (.int 32))) (.cons (.var 1) .nil)))) (.cons (.call 12 (.cons (.bin .Add (.var 5) (.var 6)) (.cons (.var 2) .nil))) .nil))))
noncomputable def s4_law_family : S := (.app 4 (.tup (.cons (.var 7) (.cons (.var 8) .nil))))
noncomputable def s5_law_family : S := (.ife (.cmp .NotIn (.var 7) (.comp (.cons (.t [10,11]) (.var 4) .nil (.done (.var 10))))) (.cons s4_law_family .nil) .nil)
noncomputable def s6_law_family : S := (.forr (.t [7,8]) (.var 3) (.cons s5_law_family .nil) .nil)
noncomputable def s7_law_family : S := (.ret (.bi .sorted (.cons (.var 4) .nil)))
noncomputable def tm_law_family : Ss := (.cons s1_law_family (.cons s2_law_family (.cons s3_law_family (.cons (.own 4 (.lst .nil)) (.cons (.fz 3) (.cons s6_law_family (.cons s7_law_family .nil)))))))
noncomputable def nm_law_want : List Str := ("one" : Str) :: ("way" : Str) :: ("low" : Str) :: ("text" : Str) :: []
noncomputable def s1_law_want : S := (.ret (.lit (.str ("..." : Str))))
noncomputable def s2_law_want : S := (.ife (.cmp .Eq (.var 0) (.lit (.int 0))) (.cons s1_law_want .nil) .nil)
noncomputable def s3_law_want : S := (.asg (.n 3) (.call 9 (.cons (.var 0) (.cons (.var 2) (.cons (.lit (.int 0)) (.cons (.lst .nil) .nil))))))
noncomputable def s4_law_want : S := (.ret (.bin .Add (.bin .Add (.lit (.str ("..." : Str))) (.rep (.var 3) (", " : Str) (",... " : Str))) (.lit (.str ("..." : Str)))))
noncomputable def s5_law_want : S := (.ife (.cmp .Eq (.var 1) (.lit (.int 0))) (.cons s4_law_want .nil) .nil)
noncomputable def s6_law_want : S := (.ret (.bin .Add (.var 3) (.lit (.str ("..." : Str)))))
noncomputable def s7_law_want : S := (.ife (.cmp .Eq (.var 1) (.lit (.int 1))) (.cons s6_law_want .nil) .nil)
noncomputable def s8_law_want : S := (.ret (.bin .Add (.lit (.str ("..." : Str))) (.var 3)))
noncomputable def tm_law_want : Ss := (.cons s2_law_want (.cons s3_law_want (.cons s5_law_want (.cons s7_law_want (.cons s8_law_want .nil)))))
noncomputable def nm_law_table : List Str := ("family" : Str) :: ("way" : Str) :: ("low" : Str) :: ("wants" : Str) :: ("lower" : Str) :: ("i" : Str) :: ("sums" : Str) :: ("j" : Str) :: ("text" : Str) :: ("told" : Str) :: ("one" : Str) :: ("share" : Str) :: ("want" : Str) :: ("said" : Str) :: ("k" : Str) :: []
noncomputable def s1_law_table : S := (.asg (.n 3) (.comp (.cons (.t [10,11]) (.var 0) .nil (.done (.call 14 (.cons (.var 10) (.cons (.var 1) (.cons (.var 2) .nil))))))))
noncomputable def s2_law_table : S := (.asg (.n 8) (.call 9 (.cons (.call 11 (.cons (.sub (.sub (.var 0) (.var 5)) (.lit (.int 0))) (.cons (.sub (.sub (.var 0) (.var 7)) (.lit (.int 0))) (.cons (.var 1) .nil)))) (.cons (.var 2) (.cons (.lit (.int 0)) (.cons (.lst .nil) .nil))))))
noncomputable def s3_law_table : S := (.asg (.n 9) (.comp (.cons (.n 12) (.var 3) .nil (.done (.call 7 (.cons (.var 12) (.cons (.var 8) .nil)))))))
noncomputable def s4_law_table : S := (.ife (.bop .Or (.cons (.cmp .Eq (.var 8) (.lit (.str ("" : Str)))) (.cons (.cmp .NotEq (.comp (.cons (.n 13) (.var 9) (.cons (.bop .And (.cons (.cmp .IsNot (.var 13) (.lit (.bool true))) (.cons (.cmp .IsNot (.var 13) (.lit (.bool false))) .nil))) .nil) (.done (.var 13)))) (.lst .nil)) .nil))) (.cons (.ret (.lst .nil)) .nil) .nil)
noncomputable def s5_law_table : S := (.app 6 (.bi .sum (.cons (.comp (.cons (.n 14) (.bi .range (.cons (.bi .len (.cons (.var 0) .nil)) .nil)) (.cons (.sub (.var 9) (.var 14)) .nil) (.done (.sub (.sub (.var 0) (.var 14)) (.lit (.int 1)))))) .nil)))
noncomputable def s6_law_table : S := (.forr (.n 7) (.bi .range (.cons (.bin .Add (.var 5) (.lit (.int 1))) .nil)) (.cons s2_law_table (.cons s3_law_table (.cons s4_law_table (.cons s5_law_table .nil)))) .nil)
noncomputable def s7_law_table : S := (.forr (.n 5) (.bi .range (.cons (.bi .len (.cons (.var 0) .nil)) .nil)) (.cons (.own 6 (.lst .nil)) (.cons s6_law_table (.cons (.fz 6) (.cons (.app 4 (.var 6)) .nil)))) .nil)
noncomputable def s8_law_table : S := (.ret (.comp (.cons (.n 5) (.bi .range (.cons (.bi .len (.cons (.var 0) .nil)) .nil)) .nil (.done (.comp (.cons (.n 7) (.bi .range (.cons (.bi .len (.cons (.var 0) .nil)) .nil)) .nil (.done (.sub (.sub (.var 4) (.bi .max (.cons (.var 5) (.cons (.var 7) .nil)))) (.bi .min (.cons (.var 5) (.cons (.var 7) .nil)))))))))))
noncomputable def tm_law_table : Ss := (.cons s1_law_table (.cons (.own 4 (.lst .nil)) (.cons s7_law_table (.cons s8_law_table .nil))))
noncomputable def nm_law_corners : List Str := ("table" : Str) :: ("corners" : Str) :: ("head" : Str) :: ("smaller" : Str) :: ("row" : Str) :: ("entries" : Str) :: ("parts" : Str) :: ("k" : Str) :: ("entry" : Str) :: ("quotient" : Str) :: ("rest" : Str) :: []
noncomputable def s1_law_corners : S := (.asg (.n 2) (.sub (.var 0) (.lit (.int 0))))
noncomputable def s2_law_corners : S := (.ife (.cmp .Eq (.sub (.var 2) (.lit (.int 0))) (.lit (.int 0))) (.cons (.ret (.lst .nil)) .nil) .nil)
noncomputable def s3_law_corners : S := (.asg (.n 5) (.comp (.cons (.n 7) (.bi .range (.cons (.lit (.int 1)) (.cons (.bi .len (.cons (.var 4) .nil)) .nil))) .nil (.done (.bin .Sub (.bin .Mult (.sub (.var 2) (.lit (.int 0))) (.sub (.var 4) (.var 7))) (.bin .Mult (.sub (.var 4) (.lit (.int 0))) (.sub (.var 2) (.var 7))))))))
noncomputable def s4_law_corners : S := (.asg (.n 6) (.comp (.cons (.n 8) (.var 5) .nil (.done (.call 6 (.cons (.var 8) (.cons (.sub (.var 1) (.neg (.lit (.int 1)))) .nil)))))))
noncomputable def s5_law_corners : S := (.ife (.cmp .NotEq (.comp (.cons (.t [9,10]) (.var 6) (.cons (.cmp .NotEq (.var 10) (.lit (.int 0))) .nil) (.done (.var 10)))) (.lst .nil)) (.cons (.ret (.lst .nil)) .nil) .nil)
noncomputable def s6_law_corners : S := (.asg (.n 5) (.comp (.cons (.t [9,10]) (.var 6) .nil (.done (.var 9)))))
noncomputable def s7_law_corners : S := (.ife (.cmp .NotEq (.var 1) (.lst .nil)) (.cons s4_law_corners (.cons s5_law_corners (.cons s6_law_corners .nil))) .nil)
noncomputable def s8_law_corners : S := (.forr (.n 4) (.slc (.var 0) (.lit (.int 1)) .no .no) (.cons s3_law_corners (.cons s7_law_corners (.cons (.app 3 (.var 5)) .nil))) .nil)
noncomputable def s9_law_corners : S := (.app 1 (.sub (.var 2) (.lit (.int 0))))
noncomputable def s10_law_corners : S := (.whl 10000 (.cmp .NotEq (.var 0) (.lst .nil)) (.cons s1_law_corners (.cons s2_law_corners (.cons (.own 3 (.lst .nil)) (.cons s8_law_corners (.cons s9_law_corners (.cons (.fz 3) (.cons (.asg (.n 0) (.var 3)) .nil))))))))
noncomputable def tm_law_corners : Ss := (.cons (.own 1 (.lst .nil)) (.cons s10_law_corners (.cons (.ret (.var 1)) .nil)))
noncomputable def nm_law : List Str := ("script" : Str) :: ("total" : Str) :: ("way" : Str) :: ("low" : Str) :: ("family" : Str) :: ("corners" : Str) :: ("shares" : Str) :: ("odd" : Str) :: ("far" : Str) :: ("whole" : Str) :: ("told" : Str) :: ("k" : Str) :: ("one" : Str) :: ("share" : Str) :: []
noncomputable def s1_law : S := (.asg (.n 1) (.bi .sum (.cons (.var 0) .nil)))
noncomputable def s2_law : S := (.asg (.n 2) (.bin .Mod (.var 1) (.lit (.int 3))))
noncomputable def s3_law : S := (.asg (.n 3) (.bin .Mod (.bin .FloorDiv (.var 1) (.lit (.int 3))) (.lit (.int 28))))
noncomputable def s4_law : S := (.asg (.n 4) (.call 13 (.cons (.slc (.bin .Add (.slc (.var 0) .no (.lit (.int 3)) .no) (.lst (.cons (.lit (.int 51)) (.cons (.neg (.lit (.int 25))) (.cons (.lit (.int 87)) .nil))))) .no (.lit (.int 4)) .no) (.cons (.var 2) (.cons (.bin .Add (.lit (.int 1)) (.bin .Mod (.bin .FloorDiv (.var 1) (.lit (.int 84))) (.lit (.int 1400)))) .nil)))))
noncomputable def s5_law : S := (.asg (.n 5) (.call 16 (.cons (.call 15 (.cons (.var 4) (.cons (.var 2) (.cons (.var 3) .nil)))) .nil)))
noncomputable def s6_law : S := (.asg (.n 6) (.comp (.cons (.t [12,13]) (.var 4) .nil (.done (.var 13)))))
noncomputable def s7_law : S := (.asg (.n 7) (.bin .Mod (.bi .len (.cons (.var 0) .nil)) (.lit (.int 2))))
noncomputable def s8_law : S := (.asg (.n 8) (.bin .Add (.lit (.int 32)) (.bin .Mod (.var 1) (.lit (.int 31)))))
noncomputable def s9_law : S := (.asg (.n 9) (.call 9 (.cons (.sub (.sub (.var 4) (.neg (.lit (.int 1)))) (.lit (.int 0))) (.cons (.var 3) (.cons (.bin .Mult (.bin .Sub (.lit (.int 1)) (.bin .Mult (.lit (.int 2)) (.var 7))) (.bin .Pow (.lit (.int 2)) (.var 8))) (.cons (.lst (.cons (.bin .Add (.bin .Mult (.lit (.str ("-" : Str))) (.var 7)) (.call 8 (.cons (.var 8) .nil))) .nil)) .nil))))))
noncomputable def s10_law : S := (.ret (.lit (.bool false)))
noncomputable def s11_law : S := (.ife (.bop .Or (.cons (.cmp .Eq (.var 9) (.lit (.str ("" : Str)))) (.cons (.not (.call 10 (.cons (.var 9) .nil))) .nil))) (.cons s10_law .nil) .nil)
noncomputable def s12_law : S := (.asg (.n 10) (.comp (.cons (.n 11) (.bi .range (.cons (.lit (.int 1)) (.cons (.bi .len (.cons (.var 5) .nil)) .nil))) .nil (.done (.call 6 (.cons (.bin .Add (.sub (.var 5) (.var 11)) (.bin .FloorDiv (.sub (.var 5) (.bin .Sub (.var 11) (.lit (.int 1)))) (.lit (.int 2)))) (.cons (.sub (.var 5) (.bin .Sub (.var 11) (.lit (.int 1)))) .nil)))))))
noncomputable def s13_law : S := (.ret (.cmp .Eq (.var 10) (.comp (.cons (.n 11) (.bi .range (.cons (.lit (.int 1)) (.cons (.bi .len (.cons (.var 6) .nil)) .nil))) .nil (.done (.tup (.cons (.sub (.var 6) (.var 11)) (.cons (.bin .FloorDiv (.sub (.var 5) (.bin .Sub (.var 11) (.lit (.int 1)))) (.lit (.int 2))) .nil))))))))
noncomputable def xif_law : X := (.cmp .NotEq (.slc (.var 5) .no (.lit (.int 1)) .no) (.slc (.var 6) .no (.lit (.int 1)) .no))
noncomputable def xarg_law : X := (.sub (.var 5) (.neg (.lit (.int 1))))
noncomputable def tmb_law : Ss := (.cons s7_law (.cons s8_law (.cons s9_law (.cons s11_law (.cons s12_law (.cons s13_law .nil))))))
noncomputable def sif_law : S := (.ife (.bop .Or (.cons xif_law (.cons (.cmp .Lt xarg_law xarg_law) .nil))) (.cons s10_law .nil) .nil)
noncomputable def tm_law2 : Ss := (.cons s1_law (.cons s2_law (.cons s3_law (.cons s4_law (.cons s5_law (.cons s6_law (.cons sif_law tmb_law)))))))
noncomputable def rest02 : List (Str × FnX) := [("_law_meet",.code nm_law_meet 3 1 tm_law_meet),
  ("_law_share",.code nm_law_share 2 1 tm_law_share),
  ("_law_family",.code nm_law_family 3 9 tm_law_family),
  ("_law_want",.code nm_law_want 3 1 tm_law_want),
  ("_law_table",.code nm_law_table 3 12 tm_law_table),
  ("_law_corners",.code nm_law_corners 1 10 tm_law_corners)]
noncomputable def lowBit (a : Nat) : Nat := a &&& (32 - a)
noncomputable def meetN (w a b : Nat) : Nat := if w = 0 ∨ a ^^^ b = 0 then a &&& b else if w = 1 then a % lowBit (a ^^^ b) else a - a % 2 ^ (Nat.log2 (a ^^^ b) + 1)
noncomputable def isI (o : Option V) (m : Nat) : Bool := o.elim false fun v => v.asInt.elim false fun i => decide (i = (m : Int))
theorem isI_of {o : Option V} {m : Nat} (h : isI o m = true) : o = some (.int m) := by
  cases o with
  | none => exact Bool.noConfusion h
  | some v => cases v with
    | int i => exact congrArg (fun i => some (V.int i)) (of_decide_eq_true h)
    | none => exact Bool.noConfusion h
    | bool => exact Bool.noConfusion h
    | str => exact Bool.noConfusion h
    | tup => exact Bool.noConfusion h
    | list => exact Bool.noConfusion h
theorem meet_all (n : Nat) : (List.range 3).all (fun w => (List.range 32).all fun a => (List.range 32).all fun b => isI (R rest02 (n + 1) 11 [.int a,.int b,.int w]) (meetN w a b)) = true := by kernel_rfl
theorem meet_run {n w a b : Nat} (hw : w < 3) (ha : a < 32) (hb : b < 32) : R rest02 (n + 1) 11 [.int a,.int b,.int w] = some (.int (meetN w a b)) :=
  isI_of (List.all_eq_true.mp (List.all_eq_true.mp (List.all_eq_true.mp (meet_all n) w (List.mem_range.mpr hw)) a (List.mem_range.mpr ha)) b (List.mem_range.mpr hb))
noncomputable def sizeN (w : Nat) (x : Int) : Nat := 2 ^ w + x.natAbs / 32 % 2 ^ w
noncomputable def shareZ (w : Nat) (x : Int) : Int := if x < 0 then -(sizeN w x : Int) else sizeN w x
theorem size_bd (w : Nat) (x : Int) : 2 ^ w ≤ sizeN w x /\ sizeN w x < 2 ^ (w + 1) :=
  ⟨Nat.le_add_right _ _,Nat.lt_of_lt_of_le (Nat.add_lt_add_left (Nat.mod_lt _ (Nat.two_pow_pos w)) _) (Nat.le_of_eq (by rw [Nat.pow_succ,Nat.mul_two]))⟩
theorem share_bd (w : Nat) (x : Int) : 2 ^ w ≤ (shareZ w x).natAbs /\ (shareZ w x).natAbs < 2 ^ (w + 1) := by
  unfold shareZ
  split
  · rw [Int.natAbs_neg]; exact size_bd w x
  · exact size_bd w x
theorem abs_ev (x : Int) : absD [.v (.int x)] = some (.v (.int (x.natAbs : Int))) := by
  refine congrArg (fun i => some (D.v (.int i))) (?_ : (if x < 0 then -x else x) = _)
  split <;> lia
theorem share_run {n w : Nat} {x : Int} (hw : w ≤ 1400) : R rest02 (n + 1) 12 [.int x,.int w] = some (.int (shareZ w x)) := by
  have hp : 2 ^ w ≠ 0 := Nat.ne_of_gt (Nat.two_pow_pos w)
  have e2 : evE (EvR rest02 n) (.bin .Pow (.lit (.int 2)) (.var 1)) [some (.v (.int x)),di w,none] = some (.v (.int ((2 ^ w : Nat) : Int))) :=
    ev_bin rfl (evV rfl) ((powZ w (Nat.le_trans hw (by decide))).trans (congrArg (fun i => some (D.v (.int i))) (pow_cast w)))
  have ed : evE (EvR rest02 n) (.bin .FloorDiv (.bi .abs (.cons (.var 0) .nil)) (.lit (.int 32))) [some (.v (.int x)),di w,none] = some (.v (.int ((x.natAbs / 32 : Nat) : Int))) :=
    ev_bin (ev_bi (evXs_cons (evV rfl) rfl) (abs_ev x)) rfl (divZ (x.natAbs : Int) 32 (by decide) (by decide))
  have em : evE (EvR rest02 n) (.bin .Add (.bin .Pow (.lit (.int 2)) (.var 1)) (.bin .Mod (.bin .FloorDiv (.bi .abs (.cons (.var 0) .nil)) (.lit (.int 32))) (.bin .Pow (.lit (.int 2)) (.var 1)))) [some (.v (.int x)),di w,none] = some (.v (.int (sizeN w x : Int))) :=
    ev_bin e2 (ev_bin ed e2 (modZ _ (2 ^ w) hp)) rfl
  refine run_ret (k:=1) rfl rfl (go_next (ρ' := [some (.v (.int x)),di w,di (sizeN w x)]) (do_asg em rfl rfl) (go_ret (do_ret (.v (.int (shareZ w x))) ?_ rfl)))
  have ht : evT (EvR rest02 n) (.cmp .Lt (.var 0) (.lit (.int 0))) [some (.v (.int x)),di w,di (sizeN w x)] = some (decide (x < 0)) := ev_cmp (evV rfl) rfl rfl
  refine (bindK ht ?_ : evE _ (.ite _ _ _) _ = _)
  unfold shareZ
  by_cases h : x < 0
  · rw [if_pos h]
    exact (if_pos (decide_eq_true h)).trans (ev_neg (evV rfl))
  · rw [if_neg h]
    exact (if_neg (by simp [h])).trans (evV rfl)
section
noncomputable abbrev pV (p : Nat × Int) : V := .tup [.int p.1,.int p.2]
noncomputable abbrev zV (x : Int) : V := .int x
noncomputable def toZ (p : Nat × Int) : Int × Int := (p.1,p.2)
theorem allPairs_pV : ∀ l : List (Nat × Int),allPairs (l.map pV) = some (l.map toZ)
  | [] => rfl
  | p :: l => (bindK rfl (congrArg (Option.map (toZ p :: ·)) (allPairs_pV l)) : (pairOf (pV p)).bind (fun q => (allPairs (l.map pV)).map (q :: ·)) = _)
theorem cut_to (l : List V) (k : Nat) : cut l none (some (k : Int)) = l.take k := by
  show (l.drop 0).take (clip l.length k - 0) = _
  rw [clip_nat,List.drop_zero,Nat.sub_zero,<- List.take_eq_take_min]
theorem cut_from (l : List V) (k : Nat) : cut l (some (k : Int)) none = l.drop k := by
  show (l.drop (clip l.length k)).take (l.length - clip l.length k) = _
  rw [clip_nat,List.take_of_length_le (by rw [List.length_drop]; exact Nat.le_refl _)]
  by_cases h : k ≤ l.length
  · rw [Nat.min_eq_left h]
  · rw [Nat.min_eq_right (by lia),List.drop_length,List.drop_eq_nil_of_le (by lia)]
noncomputable def addP (acc : List (Nat × Int)) (p : Nat × Int) : List (Nat × Int) := if p.1 ∈ acc.map (·.1) then acc else acc ++ [p]
noncomputable def drawn (way w : Nat) (a b : Int) (ns : List Int) : List (Nat × Int) := ns.map (fun x => ((x % 32).toNat,shareZ w x)) ++ [(meetN way (a % 32).toNat (b % 32).toNat,shareZ w (a + b))]
section
variable {ns : List Int} {way w n : Nat} {dr acc : List (Nat × Int)} {a b : Int} {one share x o p f s d : Option D} {ε : Ev}
noncomputable abbrev stF2 (ns : List Int) (way w : Nat) (d f a b one share x o p : Option D) : Loc := [some (.v (.list (ns.map zV))),di way,di w,d,f,a,b,one,share,x,o,p]
theorem fm_1 {r : List Int} (hl : ns.length ≤ 4) (h : ns = a :: b :: r) : evS ε s1_law_family (stF2 ns way w d f o p one share x s none) = some (.next,stF2 ns way w d f (some (.v (.int a))) (some (.v (.int b))) one share x s none) :=
  do_asg (ev_slc (evV rfl) rfl rfl rfl ((if_pos (map_lim (Nat.le_trans hl (le_lim (by decide))))).trans (congrArg (fun l => some (D.t l)) (cut_to (ns.map zV) 2)))) rfl (by subst h; rfl)
theorem mod_int (x : Int) : binD .Mod (.v (.int x)) (.v (.int 32)) = some (.v (.int (((x % 32).toNat : Nat) : Int))) := modZ x 32 (by decide)
theorem fm_2 (hl : ns.length ≤ 4) (hw : w ≤ 1400) : evS (EvR rest02 (n + 1)) s2_law_family (stF2 ns way w d f o p one share none s none) = some (.next,stF2 ns way w (some (.o 3 ((ns.map fun x => ((x % 32).toNat,shareZ w x)).map pV))) f o p one share none s none) :=
  do_own ((comp_M (v:=zV) (st:=fun x => stF2 ns way w d f o p one share (some (.v (.int x))) s none) (f:=fun x => .v (pV ((x % 32).toNat,shareZ w x))) (g:=fun x => pV ((x % 32).toNat,shareZ w x)) (evI_var rfl rfl (map_lim (Nat.le_trans hl (le_lim (by decide))))) (fun _ _ => rfl)
    (fun x _ => ⟨ev_tup (evXs_cons (ev_bin (evV rfl) rfl (mod_int x)) (evXs_cons (evE_call (evXs_cons (evV rfl) (evXs_cons (evV rfl) rfl)) rfl (share_run hw)) rfl)) rfl (show 2 ≤ lim from le_lim (by decide)),rfl⟩) (Nat.le_trans hl (le_lim (by decide)))).trans (congrArg (fun l => some (D.t l)) (List.map_map (f:=fun x : Int => ((x % 32).toNat,shareZ w x)) (g:=pV)).symm)) (show 3 < 12 by decide)
theorem mod_lt (x : Int) : (x % 32).toNat < 32 := by lia
theorem fm_3 (hw : w ≤ 1400) (hway : way < 3) (hl : dr.length ≤ 5) : evS (EvR rest02 (n + 1)) s3_law_family (stF2 ns way w (some (.o 3 (dr.map pV))) f (some (.v (.int a))) (some (.v (.int b))) one share x s none) =
    some (.next,stF2 ns way w (some (.o 3 ((dr ++ [(meetN way (a % 32).toNat (b % 32).toNat,shareZ w (a + b))]).map pV))) f (some (.v (.int a))) (some (.v (.int b))) one share x s none) :=
  (do_app (v:=pV (meetN way (a % 32).toNat (b % 32).toNat,shareZ w (a + b))) (ev_tup (vs:=[_,_]) (evXs_cons (evE_call (evXs_cons (ev_bin (evV rfl) rfl (mod_int a)) (evXs_cons (ev_bin (evV rfl) rfl (mod_int b)) (evXs_cons (evV rfl) rfl))) rfl (meet_run hway (mod_lt a) (mod_lt b)))
    (evXs_cons (evE_call (evXs_cons (ev_bin (evV rfl) (evV rfl) rfl) (evXs_cons (evV rfl) rfl)) rfl (share_run hw)) rfl)) rfl (show 2 ≤ lim from le_lim (by decide))) rfl rfl (map_lim (Nat.le_trans hl (le_lim (by decide))))).trans (congrArg (fun l => some (Fl.next,stF2 ns way w (some (.o 3 l)) f (some (.v (.int a))) (some (.v (.int b))) one share x s none)) (List.map_append (f:=pV) (l₂:=[(meetN way (a % 32).toNat (b % 32).toNat,shareZ w (a + b))])).symm)
noncomputable abbrev bodyF2 (ε : Ev) : V -> Loc -> Option (Fl × Loc) := fun d ρ => (bindT (.t [7,8]) d ρ).bind fun ρ' => evSs ε (.cons s5_law_family .nil) ρ'
theorem in_fsts (k : Nat) (hl : acc.length ≤ 5) : inD (.v (.int k)) (.t (acc.map fun r => iV r.1)) = some (decide (k ∈ acc.map (·.1))) := by
  have h : inD (.v (.int k)) (.v (.list ((acc.map (·.1)).map iV))) = some (decide (k ∈ acc.map (·.1))) := in_ints (l:=acc.map (·.1)) (x:=k) (map_lim (Nat.le_trans hl (le_lim (by decide))))
  rw [List.map_map] at h
  exact h
theorem f_in (q : Nat × Int) (hl : acc.length ≤ 5) : evT ε (.cmp .NotIn (.var 7) (.comp (.cons (.t [10,11]) (.var 4) .nil (.done (.var 10))))) (stF2 ns way w d (some (.o 4 (acc.map pV))) o p (di q.1) (some (.v (.int q.2))) x none none) = some (!decide (q.1 ∈ acc.map (·.1))) :=
  ev_cmp (evV rfl) (comp_M (v:=pV) (st:=fun r => stF2 ns way w d (some (.o 4 (acc.map pV))) o p (di q.1) (some (.v (.int q.2))) x (di r.1) (some (.v (.int r.2)))) (f:=fun r => .v (iV r.1)) (g:=fun r => iV r.1) (evI_var rfl rfl (map_lim (Nat.le_trans hl (le_lim (by decide))))) (fun _ _ => rfl) (fun r _ => ⟨evV rfl,rfl⟩) (Nat.le_trans hl (le_lim (by decide))))
    (congrArg (Option.map (!·)) (in_fsts q.1 hl))
theorem f_turn (q : Nat × Int) (hl : acc.length ≤ 5) : bodyF2 ε (pV q) (stF2 ns way w d (some (.o 4 (acc.map pV))) o p one share x none none) = some (.next,stF2 ns way w d (some (.o 4 ((addP acc q).map pV))) o p (di q.1) (some (.v (.int q.2))) x none none) := by
  have h := f_in (ε:=ε) (ns:=ns) (way:=way) (w:=w) (d:=d) (o:=o) (p:=p) (x:=x) q hl
  unfold addP
  by_cases hm : q.1 ∈ acc.map (·.1)
  · rw [if_pos hm]
    exact (go_next (if_no (h.trans (congrArg (fun b => some (!b)) (decide_eq_true hm))) go_nil) go_nil : evSs ε (.cons s5_law_family .nil) (stF2 ns way w d (some (.o 4 (acc.map pV))) o p (di q.1) (some (.v (.int q.2))) x none none) = _)
  · rw [if_neg hm,List.map_append]
    exact (go_next (if_yes (h.trans (congrArg (fun b => some (!b)) (decide_eq_false hm))) (go_next (do_app (ev_tup (vs:=[_,_]) (evXs_cons (evV rfl) (evXs_cons (evV rfl) rfl)) rfl (show 2 ≤ lim from le_lim (by decide))) rfl rfl (map_lim (Nat.le_trans hl (le_lim (by decide))))) go_nil)) go_nil : evSs ε (.cons s5_law_family .nil) (stF2 ns way w d (some (.o 4 (acc.map pV))) o p (di q.1) (some (.v (.int q.2))) x none none) = _)
theorem add_len (acc : List (Nat × Int)) (q : Nat × Int) : (addP acc q).length ≤ acc.length + 1 := by
  unfold addP
  split
  · exact Nat.le_succ _
  · rw [List.length_append]; exact Nat.le_refl _
theorem f_loop2 : ∀ (l acc : List (Nat × Int)) (one share : Option D),acc.length + l.length ≤ 5 -> ∃ one' share',forL (bodyF2 ε) (l.map pV) (stF2 ns way w d (some (.o 4 (acc.map pV))) o p one share x none none) = some (.next,stF2 ns way w d (some (.o 4 ((l.foldl addP acc).map pV))) o p one' share' x none none)
  | [],acc,one,share,_ => ⟨one,share,rfl⟩
  | q :: l,acc,one,share,h => by
    have hq : acc.length + l.length + 1 ≤ 5 := h
    obtain ⟨o',s',e⟩ := f_loop2 l (addP acc q) (di q.1) (some (.v (.int q.2))) (by have := add_len acc q; lia)
    exact ⟨o',s',(for_go (f_turn q (by lia))).trans e⟩
end
end
structure FamOk (w : Nat) (qs : List (Nat × Int)) : Prop where
  inc : qs.Pairwise fun a b => a.1 < b.1
  lt : ∀ q ∈ qs,q.1 < 32
  sh : ∀ q ∈ qs,2 ^ w ≤ q.2.natAbs /\ q.2.natAbs < 2 ^ (w + 1)
  ne : qs ≠ []
  len : qs.length ≤ 5
theorem add_nodup {acc : List (Nat × Int)} {q : Nat × Int} (h : (acc.map (·.1)).Nodup) : ((addP acc q).map (·.1)).Nodup := by
  unfold addP
  split
  · exact h
  · rename_i hq
    rw [List.map_append,List.nodup_append]
    refine ⟨h,List.nodup_cons.mpr ⟨List.not_mem_nil,List.nodup_nil⟩,fun x hx y hy e => ?_⟩
    rw [List.map_singleton,List.mem_singleton] at hy
    exact hq (hy ▸ e ▸ hx)
theorem add_mem {acc : List (Nat × Int)} {q x : Nat × Int} (h : x ∈ addP acc q) : x ∈ acc ∨ x = q := by
  unfold addP at h
  split at h
  · exact .inl h
  · exact (List.mem_append.mp h).imp id List.mem_singleton.mp
theorem add_ne (acc : List (Nat × Int)) (q : Nat × Int) : addP acc q ≠ [] := by
  unfold addP
  split
  · rename_i h; intro e; rw [e] at h; cases h
  · exact List.append_ne_nil_of_right_ne_nil _ (List.cons_ne_nil _ _)
theorem fold_nodup : ∀ {l acc : List (Nat × Int)},(acc.map (·.1)).Nodup -> ((l.foldl addP acc).map (·.1)).Nodup
  | [],_,h => h
  | _ :: l,_,h => fold_nodup (l:=l) (add_nodup h)
theorem fold_mem : ∀ {l acc : List (Nat × Int)} {x : Nat × Int},x ∈ l.foldl addP acc -> x ∈ acc ∨ x ∈ l
  | [],_,_,h => .inl h
  | q :: l,_,x,h => (fold_mem (l:=l) h).elim (fun h => (add_mem h).elim .inl fun (e : x = q) => .inr (e ▸ .head _)) fun h => .inr (.tail _ h)
theorem fold_len : ∀ (l acc : List (Nat × Int)),(l.foldl addP acc).length ≤ acc.length + l.length
  | [],acc => Nat.le_refl _
  | q :: l,acc => Nat.le_trans (fold_len l (addP acc q)) (by have := add_len acc q; rw [List.length_cons]; lia)
theorem fold_ne : ∀ {l acc : List (Nat × Int)},acc ≠ [] ∨ l ≠ [] -> l.foldl addP acc ≠ []
  | [],acc,h => h.elim id fun h => absurd rfl h
  | q :: l,acc,_ => fold_ne (l:=l) (.inl (add_ne acc q))
theorem ins_len (a b : Int) : ∀ l : List (Int × Int),(insPair a b l).length = l.length + 1
  | [] => rfl
  | p :: r => by
    unfold insPair
    split
    · rfl
    · rw [List.length_cons,ins_len a b r,List.length_cons]
theorem sort_len : ∀ l : List (Int × Int),(sortPairs l).length = l.length
  | [] => rfl
  | p :: r => (ins_len p.1 p.2 _).trans (congrArg (· + 1) (sort_len r))
noncomputable def unZ (p : Int × Int) : Nat × Int := (p.1.toNat,p.2)
theorem unZ_V {l : List (Nat × Int)} : ∀ {m : List (Int × Int)},(∀ x ∈ m,x ∈ l.map toZ) -> m.map ofPair = (m.map unZ).map pV
  | [],_ => rfl
  | x :: m,h => by
    obtain ⟨q,_,e⟩ := List.mem_map.mp (h x (.head _))
    subst e
    exact congrArg (V.tup [.int q.1,.int q.2] :: ·) (unZ_V (l:=l) fun x hx => h x (.tail _ hx))
theorem toZ_nodup {l : List (Nat × Int)} (h : (l.map (·.1)).Nodup) : ((l.map toZ).map (·.1)).Nodup := by
  have e : (l.map toZ).map (·.1) = (l.map (·.1)).map (fun x : Nat => (x : Int)) := by rw [List.map_map,List.map_map]; rfl
  rw [e]
  exact List.Pairwise.map _ (fun a b h q => h (Int.ofNat.inj q)) h
noncomputable def famOf (way w : Nat) (a b : Int) (ns : List Int) : List (Nat × Int) := (sortPairs (((drawn way w a b ns).foldl addP []).map toZ)).map unZ
theorem fam_ok {way w : Nat} {a b : Int} {ns : List Int} (hl : ns.length ≤ 4) (hm : (drawn way w a b ns).all (fun q => decide (q.1 < 32)) = true) : FamOk w (famOf way w a b ns) := by
  have nd : (((drawn way w a b ns).foldl addP []).map (·.1)).Nodup := fold_nodup List.nodup_nil
  have mem : ∀ q ∈ famOf way w a b ns,q ∈ drawn way w a b ns := fun q hq => by
    obtain ⟨z,hz,rfl⟩ := List.mem_map.mp hq
    obtain ⟨y,hy,rfl⟩ := List.mem_map.mp (mem_sort.mp hz)
    exact (fold_mem hy).elim (fun h => nomatch h) id
  have sh : ∀ q ∈ drawn way w a b ns,2 ^ w ≤ q.2.natAbs /\ q.2.natAbs < 2 ^ (w + 1) := fun q hq => by
    rcases List.mem_append.mp hq with hq | hq
    · obtain ⟨x,_,rfl⟩ := List.mem_map.mp hq; exact share_bd w x
    · rw [List.mem_singleton.mp hq]; exact share_bd w (a + b)
  have dl : (drawn way w a b ns).length = ns.length + 1 := by unfold drawn; rw [List.length_append,List.length_map]; rfl
  have fl : (famOf way w a b ns).length = ((drawn way w a b ns).foldl addP []).length := by unfold famOf; rw [List.length_map,sort_len,List.length_map]
  refine ⟨?_,fun q hq => of_decide_eq_true (List.all_eq_true.mp hm q (mem q hq)),fun q hq => sh q (mem q hq),fun e => ?_,?_⟩
  · unfold famOf
    rw [List.pairwise_map]
    refine List.Pairwise.imp_of_mem (fun {x y} hx hy h => ?_) (sort_inc (toZ_nodup nd))
    obtain ⟨p,_,rfl⟩ := List.mem_map.mp (mem_sort.mp hx)
    obtain ⟨q,_,rfl⟩ := List.mem_map.mp (mem_sort.mp hy)
    exact Int.ofNat_lt.mp h
  · rw [e] at fl
    exact fold_ne (.inr fun q => by rw [q] at dl; cases dl) (List.length_eq_zero_iff.mp fl.symm)
  · rw [fl]
    exact Nat.le_trans (fold_len _ _) (by rw [dl]; show 0 + (ns.length + 1) ≤ 5; lia)
theorem meet_lt : (List.range 3).all (fun w => (List.range 32).all fun a => (List.range 32).all fun b => decide (meetN w a b < 32)) = true := by decide +kernel
theorem meet_32 {w a b : Nat} (hw : w < 3) (ha : a < 32) (hb : b < 32) : meetN w a b < 32 :=
  of_decide_eq_true (List.all_eq_true.mp (List.all_eq_true.mp (List.all_eq_true.mp meet_lt w (List.mem_range.mpr hw)) a (List.mem_range.mpr ha)) b (List.mem_range.mpr hb))
theorem drawn_lt {way w : Nat} {a b : Int} {ns : List Int} (hway : way < 3) : (drawn way w a b ns).all (fun q => decide (q.1 < 32)) = true :=
  List.all_eq_true.mpr fun q hq => decide_eq_true ((List.mem_append.mp hq).elim (fun hq => (List.mem_map.mp hq).elim fun x h => h.2 ▸ mod_lt x) fun hq => List.mem_singleton.mp hq ▸ meet_32 hway (mod_lt a) (mod_lt b))
theorem fam_run {n way w : Nat} {a b : Int} {r : List Int} (hl : (a :: b :: r).length ≤ 4) (hway : way < 3) (hw : w ≤ 1400) :
    R rest02 (n + 2) 13 [.list ((a :: b :: r).map zV),.int way,.int w] = some (.list ((famOf way w a b (a :: b :: r)).map pV)) /\ FamOk w (famOf way w a b (a :: b :: r)) := by
  have dl : (drawn way w a b (a :: b :: r)).length ≤ 5 := by unfold drawn; rw [List.length_append,List.length_map]; exact Nat.succ_le_succ hl
  refine ⟨?_,fam_ok hl (drawn_lt hway)⟩
  have nd : (((drawn way w a b (a :: b :: r)).foldl addP []).map (·.1)).Nodup := fold_nodup List.nodup_nil
  have fl : ((drawn way w a b (a :: b :: r)).foldl addP []).length ≤ 5 := Nat.le_trans (fold_len _ _) (by show 0 + _ ≤ 5; rw [Nat.zero_add]; exact dl)
  obtain ⟨o',s',e⟩ := f_loop2 (ε:=EvR rest02 (n + 1)) (ns:=a :: b :: r) (way:=way) (w:=w) (d:=some (.v (.list ((drawn way w a b (a :: b :: r)).map pV)))) (o:=some (.v (.int a))) (p:=some (.v (.int b))) (x:=none) (drawn way w a b (a :: b :: r)) [] none none (by show 0 + _ ≤ 5; rw [Nat.zero_add]; exact dl)
  refine run_ret (k:=9) rfl rfl (go_next (fm_1 (ns:=a :: b :: r) (d:=none) (f:=none) (o:=none) (p:=none) (one:=none) (share:=none) (x:=none) (s:=none) hl rfl) (go_next (fm_2 hl hw) (go_next (fm_3 hw hway (map_lim (Nat.le_trans hl (by decide)))) (go_next (do_own (l:=[]) (ev_lst rfl rfl (Nat.zero_le _)) (show 4 < 12 by decide)) (go_next (do_fz rfl) (go_next ((do_for rfl (evI_var rfl rfl (map_lim (Nat.le_trans dl (le_lim (by decide))))) e).trans go_nil) (go_ret (do_ret (.t ((sortPairs (((drawn way w a b (a :: b :: r)).foldl addP []).map toZ)).map ofPair)) (ev_bi (evXs_cons (evV rfl) rfl) ?_) ?_))))))))
  · exact bindK (allPairs_pV _) (if_pos ⟨map_lim fl,toZ_nodup nd⟩)
  · exact congrArg V.list (unZ_V fun x hx => mem_sort.mp hx)
section
noncomputable def leW (w a b : Nat) : Bool := if w = 0 then a &&& b == a else if w = 1 then decide (bits5 a <+: bits5 b) else decide (bits5 a <:+ bits5 b)
noncomputable def wantL (w low a : Nat) : List Nat := if a = 0 then dots else if w = 0 then dots ++ join3 ((textW a low).map tok) ++ dots else if w = 1 then flat (textW a low) ++ dots else dots ++ flat (textW a low)
theorem map_inj_on {α β : Type} {f : α -> β} : ∀ {a b : List α},(∀ x ∈ a,∀ y ∈ b,f x = f y -> x = y) -> a.map f = b.map f -> a = b
  | [],[],_,_ => rfl
  | [],_ :: _,_,h => nomatch h
  | _ :: _,[],_,h => nomatch h
  | x :: a,y :: b,hi,h => by
    rw [List.map_cons,List.map_cons,List.cons.injEq] at h
    rw [hi x (.head _) y (.head _) h.1,map_inj_on (fun x hx y hy => hi x (.tail _ hx) y (.tail _ hy)) h.2]
theorem pre_map {α β : Type} {f : α -> β} {a b : List α} (hi : ∀ x ∈ a,∀ y ∈ b,f x = f y -> x = y) : a.map f <+: b.map f ↔ a <+: b := by
  refine ⟨fun h => ?_,fun h => h.map f⟩
  have e := List.prefix_iff_eq_take.mp h
  rw [<- List.map_take] at e
  rw [map_inj_on (fun x hx y hy => hi x hx y (List.mem_of_mem_take hy)) e]
  exact List.take_prefix _ _
theorem suf_map {α β : Type} {f : α -> β} {a b : List α} (hi : ∀ x ∈ a,∀ y ∈ b,f x = f y -> x = y) : a.map f <:+ b.map f ↔ a <:+ b := by
  refine ⟨fun h => ?_,fun h => h.map f⟩
  have e := List.suffix_iff_eq_drop.mp h
  rw [<- List.map_drop] at e
  rw [map_inj_on (fun x hx y hy => hi x hx y (List.mem_of_mem_drop hy)) e]
  exact List.drop_suffix _ _
theorem low_word {a k low : Nat} (h : low < 28) (hk : k ∈ bits5 a) : wordL (low + k) ≠ [48,120,48] := by
  have := bits5_lt hk
  exact (word_good (p:=low + k) (by lia)).2.2.2
section
variable {a b low : Nat}
theorem text_cases (ha : a < 32) (ha0 : a ≠ 0) (hb : b < 32) (h : low < 28) {P : Prop} (h0 : b = 0 -> textW a low ≠ [] -> (∀ w ∈ textW a low,w ≠ [48,120,48]) -> bits5 a ≠ [] -> P) (h1 : b ≠ 0 -> P) : P := by
  by_cases hb0 : b = 0
  · refine h0 hb0 (textW_ne ha) (fun w hw => ?_) fun q => ha0 ((bits5_nil ha).mp q)
    rw [textW,if_neg ha0] at hw
    obtain ⟨k,hk,rfl⟩ := List.mem_map.mp hw
    exact low_word h hk
  · exact h1 hb0
theorem pre_text (ha : a < 32) (ha0 : a ≠ 0) (hb : b < 32) (h : low < 28) : textW a low <+: textW b low ↔ bits5 a <+: bits5 b :=
  text_cases ha ha0 hb h (fun hb0 hn hw hbn => by
    subst hb0
    have e1 : textW 0 low = [[48,120,48]] := if_pos rfl
    have e2 : bits5 0 = [] := by decide
    rw [e1,e2]
    refine ⟨fun q => ?_,fun q => absurd (List.prefix_nil.mp q) hbn⟩
    obtain ⟨x,r,e⟩ := List.exists_cons_of_ne_nil hn
    rw [e] at q hw
    have hx := (List.cons_prefix_cons.mp q).1
    exact absurd hx (hw x (.head _))) fun hb0 => by
    rw [textW,if_neg ha0,textW,if_neg hb0]
    exact pre_map (low_inj h)
theorem suf_text (ha : a < 32) (ha0 : a ≠ 0) (hb : b < 32) (h : low < 28) : textW a low <:+ textW b low ↔ bits5 a <:+ bits5 b :=
  text_cases ha ha0 hb h (fun hb0 hn hw hbn => by
    subst hb0
    have e1 : textW 0 low = [[48,120,48]] := if_pos rfl
    have e2 : bits5 0 = [] := by decide
    rw [e1,e2]
    refine ⟨fun q => ?_,fun q => absurd (List.suffix_nil.mp q) hbn⟩
    obtain ⟨x,r,e⟩ := List.exists_cons_of_ne_nil hn
    have hx := q.subset (e ▸ List.mem_cons_self : x ∈ textW a low)
    exact absurd (List.mem_singleton.mp hx) (hw x (e ▸ List.mem_cons_self))) fun hb0 => by
    rw [textW,if_neg ha0,textW,if_neg hb0]
    exact suf_map (low_inj h)
theorem textF_len (h : low < 28) : (flat (textW a low)).length ≤ 210 :=
  Nat.le_trans (flat_len fun w hw => Nat.le_trans (textW_good (one:=a) h w hw).2 (by decide)) (Nat.mul_le_mul_left 42 (textW_len a low))
variable {rest : List (Str × FnX)} {n w : Nat}
theorem match_two {p q : List Nat} {r : Bool} (h : low < 28) (hp : 46 ∉ p /\ p.length ≤ 2000) (hq : 46 ∉ q /\ q.length ≤ 2000) (he : ell (mk (flat (textW b low))) [mk p,mk q] = r) : R rest (n + 1) 7 [.str (mk (p ++ dots ++ q)),.str (mk (flat (textW b low)))] = some (.bool r) :=
  ell_join (ps:=[p,q]) (Nat.le_refl 2) (show 2 ≤ 20 by decide) (List.forall_mem_cons.mpr ⟨hp,List.forall_mem_cons.mpr ⟨hq,List.forall_mem_nil _⟩⟩) (Nat.le_trans (textF_len h) (le_lim (by decide))) he
theorem nil_ok : 46 ∉ ([] : List Nat) /\ ([] : List Nat).length ≤ 2000 := ⟨List.not_mem_nil,Nat.zero_le _⟩
theorem text_ok (h : low < 28) : 46 ∉ flat (textW a low) /\ (flat (textW a low)).length ≤ 2000 := ⟨flat_free fun w hw => (textW_good (one:=a) h w hw).1,Nat.le_trans (textF_len h) (by decide)⟩
theorem match_way (hw : w < 3) (ha : a < 32) (hb : b < 32) (h : low < 28) : R rest (n + 1) 7 [.str (mk (wantL w low a)),.str (mk (flat (textW b low)))] = some (.bool (leW w a b)) := by
  have ga := fun v hv => (textW_good (one:=a) h v hv).1
  have gb := fun v hv => (textW_good (one:=b) h v hv).1
  unfold wantL leW
  by_cases ha0 : a = 0
  · rw [if_pos ha0]
    have e : (if w = 0 then a &&& b == a else if w = 1 then decide (bits5 a <+: bits5 b) else decide (bits5 a <:+ bits5 b)) = true := by
      have e2 : bits5 0 = [] := by decide
      subst ha0
      rw [e2,Nat.zero_and]
      split
      · rfl
      · split
        · exact decide_eq_true List.nil_prefix
        · exact decide_eq_true List.nil_suffix
    rw [e]
    exact match_two (p:=[]) (q:=[]) h nil_ok nil_ok (ell_D _)
  · rw [if_neg ha0]
    by_cases h0 : w = 0
    · rw [if_pos h0,if_pos h0]
      exact match_sub ha ha0 hb h
    · rw [if_neg h0,if_neg h0]
      by_cases h1 : w = 1
      · rw [if_pos h1,if_pos h1]
        have := match_two (rest:=rest) (n:=n) (b:=b) (p:=flat (textW a low)) (q:=[]) (r:=decide (bits5 a <+: bits5 b)) h (text_ok h) nil_ok ((ell_B (flat_ne (textW_ne ha))).trans (decide_eq_decide.mpr ((flat_prefix ga gb).trans (pre_text ha ha0 hb h))))
        rw [List.append_nil] at this
        exact this
      · rw [if_neg h1,if_neg h1]
        exact match_two (p:=[]) (q:=flat (textW a low)) h nil_ok (text_ok h) ((ell_C (flat_ne (textW_ne ha))).trans (decide_eq_decide.mpr ((flat_suffix (textW_ne ha) ga gb).trans (suf_text ha ha0 hb h))))
noncomputable abbrev stWt (a w low : Nat) (x : Option D) : Loc := [di a,di w,di low,x]
noncomputable abbrev tV (l : List Nat) : Option D := some (.v (sT l))
theorem w_rep {ε : Ev} (ha : a < 32) (h : low < 28) : IsT ε (stWt a w low (tV (flat (textW a low)))) (.rep (.var 3) (", " : Str) (",... " : Str)) (join3 ((textW a low).map tok)) 500 := by
  have hgd := fun v hv => textW_good (one:=a) h v hv
  refine ⟨(bindK (evV rfl) (bindK rfl ((if_pos ⟨Nat.le_trans (textF_len h) (by decide),by decide,by decide,by decide⟩).trans (congrArg (fun s => some (D.v (.str s))) (replace_flat (textW_ne ha) fun v hv => (hgd v hv).1)))) : evE ε (.rep _ _ _) _ = _),?_⟩
  exact Nat.le_trans (join3_le (K:=40) (List.forall_mem_map.mpr fun v hv => Nat.le_trans (Nat.succ_le_succ (Nat.le_trans (Nat.le_of_eq List.length_append) (Nat.succ_le_succ (hgd v hv).2))) (by decide))) (Nat.le_trans (Nat.mul_le_mul_left 43 (Nat.le_trans (Nat.le_of_eq (List.length_map _)) (textW_len a low))) (by decide))
theorem w_var {ε : Ev} (h : low < 28) : IsT ε (stWt a w low (tV (flat (textW a low)))) (.var 3) (flat (textW a low)) 210 := ⟨evV rfl,textF_len h⟩
theorem want_run (hw : w < 3) (ha : a < 32) (h : low < 28) : R rest02 (n + 3) 14 [.int a,.int w,.int low] = some (.str (mk (wantL w low a))) := by
  have e0 : ∀ (i j : Nat) (ρ : Loc),ρ[i]? = some (di j) -> ∀ k : Nat,evT (EvR rest02 (n + 2)) (.cmp .Eq (.var i) (.lit (.int k))) ρ = some (j == k) := fun i j ρ h k => ev_cmp (evV h) rfl (eq_int j k)
  have e9 : evS (EvR rest02 (n + 2)) s3_law_want (stWt a w low none) = some (.next,stWt a w low (tV (flat (textW a low)))) :=
    do_asg (evE_call (evXs_cons (evV rfl) (evXs_cons (evV rfl) (evXs_cons (a:=.v (.int 0)) rfl (evXs_cons (a:=.t []) (ev_lst rfl rfl (Nat.zero_le _)) rfl)))) rfl (text_low (n:=n) ha h)) rfl rfl
  refine run_ret (nm:=nm_law_want) (np:=3) (k:=1) (bx:=tm_law_want) rfl rfl (ρ' := stWt a w low (if a = 0 then none else tV (flat (textW a low)))) ?_
  unfold wantL
  by_cases ha0 : a = 0
  · rw [if_pos ha0,if_pos ha0]
    exact go_ret (if_yes ((e0 0 a _ rfl 0).trans (congrArg some (beq_iff_eq.mpr ha0))) (go_ret (do_ret (.v (sT dots)) t_dots.1 rfl)))
  · rw [if_neg ha0,if_neg ha0]
    refine go_next (if_no ((e0 0 a _ rfl 0).trans (congrArg some (beq_eq_false_iff_ne.mpr ha0))) go_nil) (go_next e9 ?_)
    by_cases h0 : w = 0
    · rw [if_pos h0]
      exact go_ret (if_yes ((e0 1 w _ rfl 0).trans (congrArg some (beq_iff_eq.mpr h0))) (go_ret (do_ret _ (t_add (t_add t_dots (w_rep ha h)) t_dots).1 rfl)))
    · rw [if_neg h0]
      refine go_next (if_no ((e0 1 w _ rfl 0).trans (congrArg some (beq_eq_false_iff_ne.mpr h0))) go_nil) ?_
      by_cases h1 : w = 1
      · rw [if_pos h1]
        exact go_ret (if_yes ((e0 1 w _ rfl 1).trans (congrArg some (beq_iff_eq.mpr h1))) (go_ret (do_ret _ (t_add (w_var h) t_dots).1 rfl)))
      · rw [if_neg h1]
        exact go_next (if_no ((e0 1 w _ rfl 1).trans (congrArg some (beq_eq_false_iff_ne.mpr h1))) go_nil) (go_ret (do_ret _ (t_add t_dots (w_var h)).1 rfl))
end
end
section
noncomputable abbrev fstN (qs : List (Nat × Int)) (k : Nat) : Nat := (qs.getD k (0,0)).1
noncomputable abbrev sndZ (qs : List (Nat × Int)) (k : Nat) : Int := (qs.getD k (0,0)).2
noncomputable def tabT (way : Nat) (qs : List (Nat × Int)) (i j : Nat) : Int := (((List.range qs.length).filter fun k => leW way (fstN qs k) (meetN way (fstN qs i) (fstN qs j))).map (sndZ qs)).sum
noncomputable abbrev famV (qs : List (Nat × Int)) : Option D := some (.v (.list (qs.map pV)))
noncomputable abbrev wantsQ (way low : Nat) (qs : List (Nat × Int)) : Option D := some (.v (.list (qs.map fun q => sT (wantL way low q.1))))
noncomputable abbrev toldQ (way m : Nat) (qs : List (Nat × Int)) : Option D := some (.v (.list (qs.map fun q => V.bool (leW way q.1 m))))
noncomputable abbrev rV (r : List Int) : V := .list (r.map zV)
theorem allInts_zV : ∀ l : List Int,allInts (l.map zV) = some l
  | [] => rfl
  | x :: l => congrArg (Option.map (x :: ·)) (allInts_zV l)
theorem getD_of {qs : List (Nat × Int)} {k : Nat} (h : k < qs.length) : qs[k]? = some (qs.getD k (0,0)) := by rw [List.getD,List.getElem?_eq_getElem h]; rfl
theorem five {α : Type} {qs : List α} (h : qs.length ≤ 5) : qs.length ≤ lim := Nat.le_trans h (le_lim (by decide))
section
variable {qs : List (Nat × Int)} {way low n i j m : Nat} {wants lower x5 sums x7 text told : Option D} {ε : Ev}
noncomputable abbrev stTb (qs : List (Nat × Int)) (way low : Nat) (wants lower x5 sums x7 text told : Option D) : Loc := [famV qs,di way,di low,wants,lower,x5,sums,x7,text,told,none,none,none,none,none]
theorem fam_at {ρ : Loc} {s c : Nat} {v : V} (hl : qs.length ≤ 5) (hi : i < qs.length) (h0 : ρ[0]? = some (famV qs)) (hs : ρ[s]? = some (di i)) (hc : [V.int (fstN qs i),V.int (sndZ qs i)][c]? = some v) : evE ε (.sub (.sub (.var 0) (.var s)) (.lit (.int c))) ρ = some (.v v) :=
  ev_sub (ev_sub (evV h0) (evV hs) (sub_at (v:=pV (qs.getD i (0,0))) rfl rfl (map_lim (five hl)) (by rw [List.getElem?_map,getD_of hi]; rfl))) rfl (sub_at rfl rfl (show 2 ≤ lim from le_lim (by decide)) hc)
theorem fam_len {ρ : Loc} (hl : qs.length ≤ 5) (h0 : ρ[0]? = some (famV qs)) : evE ε (.bi .len (.cons (.var 0) .nil)) ρ = some (.v (.int qs.length)) :=
  (ev_lenI (evV h0) rfl rfl (map_lim (five hl))).trans (congrArg (fun n : Nat => some (D.v (.int n))) (List.length_map pV))
theorem tb_wants (hl : qs.length ≤ 5) (hlt : ∀ q ∈ qs,q.1 < 32) (hw : way < 3) (h : low < 28) : evS (EvR rest02 (n + 3)) s1_law_table (stTb qs way low wants lower x5 sums x7 text told) = some (.next,stTb qs way low (wantsQ way low qs) lower x5 sums x7 text told) :=
  do_asg (comp_M (v:=pV) (st:=fun r => (stTb qs way low wants lower x5 sums x7 text told).take 10 ++ [di r.1,some (.v (.int r.2)),none,none,none]) (f:=fun r => .v (sT (wantL way low r.1))) (g:=fun r => sT (wantL way low r.1)) (evI_var rfl rfl (map_lim (five hl))) (fun _ _ => rfl)
    (fun r hr => ⟨evE_call (evXs_cons (evV rfl) (evXs_cons (evV rfl) (evXs_cons (evV rfl) rfl))) rfl (want_run hw (hlt r hr) h),rfl⟩) (five hl)) rfl rfl
theorem tb_2 (hl : qs.length ≤ 5) (hlt : ∀ q ∈ qs,q.1 < 32) (hw : way < 3) (h : low < 28) (hi : i < qs.length) (hj : j < qs.length) : evS (EvR rest02 (n + 3)) s2_law_table (stTb qs way low wants lower (di i) sums (di j) text told) =
    some (.next,stTb qs way low wants lower (di i) sums (di j) (tV (flat (textW (meetN way (fstN qs i) (fstN qs j)) low))) told) :=
  have l : ∀ k,k < qs.length -> fstN qs k < 32 := fun k hk => hlt _ (List.mem_of_getElem? (getD_of hk))
  do_asg (evE_call (evXs_cons (evE_call (evXs_cons (fam_at (c:=0) hl hi rfl rfl rfl) (evXs_cons (fam_at (c:=0) hl hj rfl rfl rfl) (evXs_cons (evV rfl) rfl))) rfl (meet_run (n:=n + 2) hw (l i hi) (l j hj))) (evXs_cons (evV rfl) (evXs_cons (a:=.v (.int 0)) rfl (evXs_cons (a:=.t []) (ev_lst rfl rfl (Nat.zero_le _)) rfl)))) rfl (text_low (n:=n + 1) (meet_32 hw (l i hi) (l j hj)) h)) rfl rfl
theorem tb_3 (hl : qs.length ≤ 5) (hlt : ∀ q ∈ qs,q.1 < 32) (hw : way < 3) (h : low < 28) (hm : m < 32) : evS (EvR rest02 (n + 3)) s3_law_table (stTb qs way low (wantsQ way low qs) lower x5 sums x7 (tV (flat (textW m low))) told) =
    some (.next,stTb qs way low (wantsQ way low qs) lower x5 sums x7 (tV (flat (textW m low))) (toldQ way m qs)) :=
  do_asg (comp_M (v:=fun q : Nat × Int => sT (wantL way low q.1)) (st:=fun r => (stTb qs way low (wantsQ way low qs) lower x5 sums x7 (tV (flat (textW m low))) told).set 12 (some (.v (sT (wantL way low r.1))))) (f:=fun r => .v (.bool (leW way r.1 m))) (g:=fun r => .bool (leW way r.1 m)) (evI_var rfl rfl (map_lim (five hl))) (fun _ _ => rfl)
    (fun r hr => ⟨evE_call (evXs_cons (evV rfl) (evXs_cons (evV rfl) rfl)) rfl (match_way (n:=n + 2) hw (hlt r hr) hm h),rfl⟩) (five hl)) rfl rfl
theorem said_no {ρ : Loc} {b : Bool} (h : ρ[13]? = some (some (.v (.bool b)))) : evT ε (.bop .And (.cons (.cmp .IsNot (.var 13) (.lit (.bool true))) (.cons (.cmp .IsNot (.var 13) (.lit (.bool false))) .nil))) ρ = some false :=
  (and_two (ev_cmp (evV h) rfl rfl) (ev_cmp (evV h) rfl rfl)).trans (congrArg some (both b))
theorem tb_4 {ws : List Nat} (hl : qs.length ≤ 5) (hws : ws ≠ []) : evS ε s4_law_table (stTb qs way low wants lower x5 sums x7 (tV ws) (toldQ way m qs)) = some (.next,stTb qs way low wants lower x5 sums x7 (tV ws) (toldQ way m qs)) :=
  if_no (or_two (p:=false) (q:=false) (ev_cmp (evV rfl) rfl (str_empty ws hws)) (ev_cmp (comp_A (v:=fun q : Nat × Int => V.bool (leW way q.1 m)) (st:=fun r => (stTb qs way low wants lower x5 sums x7 (tV ws) (toldQ way m qs)).set 13 (some (.v (.bool (leW way r.1 m))))) (p:=fun _ => false) (f:=fun _ => .v .none) (g:=fun _ => .none) (evI_var rfl rfl (map_lim (five hl))) (fun _ _ => rfl)
    (fun r _ => and_one (said_no rfl)) (fun _ _ h => nomatch h) (five hl)) (ev_lst rfl rfl (Nat.zero_le _)) (by rw [List.filter_eq_nil_iff.mpr fun _ _ => Bool.false_ne_true]; rfl))) go_nil
theorem tb_5 {acc : List Int} (hl : qs.length ≤ 5) (ha : acc.length ≤ 5) : evS ε s5_law_table (stTb qs way low wants lower x5 (some (.o 6 (acc.map zV))) x7 text (toldQ way m qs)) =
    some (.next,stTb qs way low wants lower x5 (some (.o 6 ((acc ++ [(((List.range qs.length).filter fun k => leW way (fstN qs k) m).map (sndZ qs)).sum]).map zV))) x7 text (toldQ way m qs)) := by
  have hr : ∀ k ∈ List.range qs.length,k < qs.length := fun k hk => List.mem_range.mp hk
  have c := comp_A (ε:=ε) (ρ:=stTb qs way low wants lower x5 (some (.o 6 (acc.map zV))) x7 text (toldQ way m qs)) (t:=.n 14) (it:=.bi .range (.cons (.bi .len (.cons (.var 0) .nil)) .nil)) (ifs:=.cons (.sub (.var 9) (.var 14)) .nil) (x:=.sub (.sub (.var 0) (.var 14)) (.lit (.int 1))) (v:=iV) (as:=List.range qs.length)
    (st:=fun k => (stTb qs way low wants lower x5 (some (.o 6 (acc.map zV))) x7 text (toldQ way m qs)).set 14 (di k)) (p:=fun k => leW way (fstN qs k) m) (f:=fun k => .v (.int (sndZ qs k))) (g:=fun k => zV (sndZ qs k)) (range_ev (fam_len hl rfl) (five hl)) (fun _ _ => rfl)
    (fun k hk => and_one (tv_sub (evV rfl) (evV rfl) (sub_at (v:=.bool (leW way (fstN qs k) m)) rfl rfl (map_lim (five hl)) (by rw [List.getElem?_map,getD_of (hr k hk)]; rfl)) rfl)) (fun k hk _ => ⟨fam_at (c:=1) hl (hr k hk) rfl rfl rfl,rfl⟩) (Nat.le_trans (Nat.le_of_eq List.length_range) (five hl))
  have hf : (((List.range qs.length).filter fun k => leW way (fstN qs k) m).map (sndZ qs)).length ≤ lim := by
    rw [List.length_map]; exact Nat.le_trans (List.length_filter_le _ _) (Nat.le_trans (Nat.le_of_eq List.length_range) (five hl))
  rw [List.map_append]
  exact do_app (ev_bi (evXs_cons (c.trans (congrArg (fun l => some (D.t l)) (List.map_map (f:=sndZ qs) (g:=zV)).symm)) rfl) (bindK (allInts_zV _) (if_pos hf))) rfl rfl (map_lim (five ha))
noncomputable abbrev bodyJ (ε : Ev) : V -> Loc -> Option (Fl × Loc) := fun d ρ => (bindT (.n 7) d ρ).bind fun ρ' => evSs ε (.cons s2_law_table (.cons s3_law_table (.cons s4_law_table (.cons s5_law_table .nil)))) ρ'
noncomputable abbrev bodyI (ε : Ev) : V -> Loc -> Option (Fl × Loc) := fun d ρ => (bindT (.n 5) d ρ).bind fun ρ' => evSs ε (.cons (.own 6 (.lst .nil)) (.cons s6_law_table (.cons (.fz 6) (.cons (.app 4 (.var 6)) .nil)))) ρ'
theorem fst_lt (hlt : ∀ q ∈ qs,q.1 < 32) (hi : i < qs.length) : fstN qs i < 32 := hlt _ (List.mem_of_getElem? (getD_of hi))
theorem tb_j (hl : qs.length ≤ 5) (hlt : ∀ q ∈ qs,q.1 < 32) (hw : way < 3) (h : low < 28) (hi : i < qs.length) : ∀ (l : List Nat) (acc : List Int) (x7 text told : Option D),(∀ j ∈ l,j < qs.length) -> acc.length + l.length ≤ 5 ->
    ∃ y7 text' told',forL (bodyJ (EvR rest02 (n + 3))) (l.map iV) (stTb qs way low (wantsQ way low qs) lower (di i) (some (.o 6 (acc.map zV))) x7 text told) = some (.next,stTb qs way low (wantsQ way low qs) lower (di i) (some (.o 6 ((acc ++ l.map (tabT way qs i)).map zV))) y7 text' told')
  | [],acc,x7,text,told,_,_ => ⟨x7,text,told,(congrArg (fun a : List Int => some (Fl.next,stTb qs way low (wantsQ way low qs) lower (di i) (some (.o 6 (a.map zV))) x7 text told)) (List.append_nil acc)).symm⟩
  | j :: l,acc,x7,text,told,hj,ha => by
    have hj0 := hj j (.head _)
    have hm := meet_32 hw (fst_lt hlt hi) (fst_lt hlt hj0)
    have ha' : acc.length + l.length + 1 ≤ 5 := ha
    obtain ⟨y,t,d,e⟩ := tb_j hl hlt hw h hi l (acc ++ [tabT way qs i j]) (di j) (tV (flat (textW (meetN way (fstN qs i) (fstN qs j)) low))) (toldQ way (meetN way (fstN qs i) (fstN qs j)) qs) (fun k hk => hj k (.tail _ hk)) (by rw [List.length_append]; show acc.length + 1 + l.length ≤ 5; lia)
    refine ⟨y,t,d,(for_go (ρ' := stTb qs way low (wantsQ way low qs) lower (di i) (some (.o 6 ((acc ++ [tabT way qs i j]).map zV))) (di j) (tV (flat (textW (meetN way (fstN qs i) (fstN qs j)) low))) (toldQ way (meetN way (fstN qs i) (fstN qs j)) qs)) ?_).trans (e.trans ?_)⟩
    · exact (go_next (tb_2 hl hlt hw h hi hj0) (go_next (tb_3 hl hlt hw h hm) (go_next (tb_4 hl (flat_ne (textW_ne hm))) (go_next (tb_5 hl (by lia)) go_nil))) : evSs (EvR rest02 (n + 3)) _ (stTb qs way low (wantsQ way low qs) lower (di i) (some (.o 6 (acc.map zV))) (di j) text told) = _)
    · rw [List.append_assoc]; rfl
noncomputable def lowRow (way : Nat) (qs : List (Nat × Int)) (i : Nat) : List Int := (List.range (i + 1)).map (tabT way qs i)
theorem tb_row {acc : List (List Int)} {x6 x7 y7 t0 d0 t1 d1 : Option D} {W : Option D} (hl : qs.length ≤ 5) (hi : i < qs.length) (ha : acc.length ≤ 5) (e1 : forL (bodyJ ε) ((List.range (i + 1)).map iV) (stTb qs way low W (some (.o 4 (acc.map rV))) (di i) (some (.o 6 [])) x7 t0 d0) = some (.next,stTb qs way low W (some (.o 4 (acc.map rV))) (di i) (some (.o 6 ((lowRow way qs i).map zV))) y7 t1 d1)) :
    bodyI ε (iV i) (stTb qs way low W (some (.o 4 (acc.map rV))) x5 x6 x7 t0 d0) = some (.next,stTb qs way low W (some (.o 4 ((acc ++ [lowRow way qs i]).map rV))) (di i) (some (.v (rV (lowRow way qs i)))) y7 t1 d1) := by
  have er : evI ε (.bi .range (.cons (.bin .Add (.var 5) (.lit (.int 1))) .nil)) (stTb qs way low W (some (.o 4 (acc.map rV))) (di i) (some (.o 6 [])) x7 t0 d0) = some ((List.range (i + 1)).map iV) := range_ev (n:=i + 1) (ev_bin (evV rfl) rfl rfl) (Nat.le_trans (Nat.succ_le_of_lt hi) (five hl))
  rw [List.map_append (f:=rV)]
  have s1 : evS ε (.own 6 (.lst .nil)) (stTb qs way low W (some (.o 4 (acc.map rV))) (di i) x6 x7 t0 d0) = some (.next,stTb qs way low W (some (.o 4 (acc.map rV))) (di i) (some (.o 6 [])) x7 t0 d0) := do_own (l:=[]) (ev_lst rfl rfl (Nat.zero_le _)) (show 6 < 15 by decide)
  have s2 : evS ε s6_law_table (stTb qs way low W (some (.o 4 (acc.map rV))) (di i) (some (.o 6 [])) x7 t0 d0) = some (.next,stTb qs way low W (some (.o 4 (acc.map rV))) (di i) (some (.o 6 ((lowRow way qs i).map zV))) y7 t1 d1) := (do_for rfl er e1).trans go_nil
  have s3 : evS ε (.fz 6) (stTb qs way low W (some (.o 4 (acc.map rV))) (di i) (some (.o 6 ((lowRow way qs i).map zV))) y7 t1 d1) = some (.next,stTb qs way low W (some (.o 4 (acc.map rV))) (di i) (some (.v (rV (lowRow way qs i)))) y7 t1 d1) := do_fz rfl
  have s4 : evS ε (.app 4 (.var 6)) (stTb qs way low W (some (.o 4 (acc.map rV))) (di i) (some (.v (rV (lowRow way qs i)))) y7 t1 d1) = some (.next,stTb qs way low W (some (.o 4 (acc.map rV ++ [lowRow way qs i].map rV))) (di i) (some (.v (rV (lowRow way qs i)))) y7 t1 d1) := do_app (evV rfl) rfl rfl (map_lim (five ha))
  exact bindK (a:=stTb qs way low W (some (.o 4 (acc.map rV))) (di i) x6 x7 t0 d0) rfl (go_next s1 (go_next s2 (go_next s3 (go_next s4 go_nil))))
theorem tb_i (hl : qs.length ≤ 5) (hlt : ∀ q ∈ qs,q.1 < 32) (hw : way < 3) (h : low < 28) : ∀ (l : List Nat) (acc : List (List Int)) (x5 x6 x7 text told : Option D),(∀ i ∈ l,i < qs.length) -> acc.length + l.length ≤ 5 ->
    ∃ y5 y6 y7 text' told',forL (bodyI (EvR rest02 (n + 3))) (l.map iV) (stTb qs way low (wantsQ way low qs) (some (.o 4 (acc.map rV))) x5 x6 x7 text told) = some (.next,stTb qs way low (wantsQ way low qs) (some (.o 4 ((acc ++ l.map (lowRow way qs)).map rV))) y5 y6 y7 text' told')
  | [],acc,x5,x6,x7,text,told,_,_ => ⟨x5,x6,x7,text,told,(congrArg (fun a : List (List Int) => some (Fl.next,stTb qs way low (wantsQ way low qs) (some (.o 4 (a.map rV))) x5 x6 x7 text told)) (List.append_nil acc)).symm⟩
  | i :: l,acc,x5,x6,x7,text,told,hi,ha => by
    have hi0 := hi i (.head _)
    have ha' : acc.length + l.length + 1 ≤ 5 := ha
    have hr : ∀ j ∈ List.range (i + 1),j < qs.length := fun j hj => Nat.lt_of_lt_of_le (List.mem_range.mp hj) hi0
    obtain ⟨y7,t1,d1,e1⟩ := tb_j (n:=n) (lower:=some (.o 4 (acc.map rV))) hl hlt hw h hi0 (List.range (i + 1)) [] x7 text told hr (by rw [List.length_range]; show 0 + (i + 1) ≤ 5; lia)
    rw [List.nil_append] at e1
    obtain ⟨z5,z6,z7,t2,d2,e2⟩ := tb_i hl hlt hw h l (acc ++ [lowRow way qs i]) (di i) (some (.v (rV (lowRow way qs i)))) y7 t1 d1 (fun k hk => hi k (.tail _ hk)) (by rw [List.length_append]; show acc.length + 1 + l.length ≤ 5; lia)
    refine ⟨z5,z6,z7,t2,d2,(for_go (ρ' := stTb qs way low (wantsQ way low qs) (some (.o 4 ((acc ++ [lowRow way qs i]).map rV))) (di i) (some (.v (rV (lowRow way qs i)))) y7 t1 d1) ?_).trans (e2.trans ?_)⟩
    · exact tb_row hl hi0 (by lia) e1
    · rw [List.append_assoc]; rfl
theorem max_ev (i j : Nat) : maxD [.v (.int i),.v (.int j)] = some (.v (.int ((max i j : Nat) : Int))) := by
  refine congrArg (fun i => some (D.v (.int i))) (?_ : (if (j : Int) > i then (j : Int) else i) = _)
  split <;> lia
theorem min_ev (i j : Nat) : minD [.v (.int i),.v (.int j)] = some (.v (.int ((min i j : Nat) : Int))) := by
  refine congrArg (fun i => some (D.v (.int i))) (?_ : (if (j : Int) < i then (j : Int) else i) = _)
  split <;> lia
noncomputable def tabRow (way : Nat) (qs : List (Nat × Int)) (i : Nat) : List Int := (List.range qs.length).map fun j => tabT way qs (max i j) (min i j)
theorem tb_out (hl : qs.length ≤ 5) : evE ε (.comp (.cons (.n 5) (.bi .range (.cons (.bi .len (.cons (.var 0) .nil)) .nil)) .nil (.done (.comp (.cons (.n 7) (.bi .range (.cons (.bi .len (.cons (.var 0) .nil)) .nil)) .nil (.done (.sub (.sub (.var 4) (.bi .max (.cons (.var 5) (.cons (.var 7) .nil)))) (.bi .min (.cons (.var 5) (.cons (.var 7) .nil)))))))))) (stTb qs way low wants (some (.o 4 (((List.range qs.length).map (lowRow way qs)).map rV))) x5 sums x7 text told) = some (.t (((List.range qs.length).map (tabRow way qs)).map rV)) := by
  have rl : (List.range qs.length).length ≤ lim := Nat.le_trans (Nat.le_of_eq List.length_range) (five hl)
  have lt : ∀ k ∈ List.range qs.length,k < qs.length := fun k hk => List.mem_range.mp hk
  refine (comp_M (v:=iV) (as:=List.range qs.length) (st:=fun i => stTb qs way low wants (some (.o 4 (((List.range qs.length).map (lowRow way qs)).map rV))) (di i) sums x7 text told) (f:=fun i => .t ((tabRow way qs i).map zV)) (g:=fun i => rV (tabRow way qs i)) (range_ev (fam_len hl rfl) (five hl)) (fun _ _ => rfl) (fun i hi => ⟨?_,rfl⟩) rl).trans (congrArg (fun l => some (D.t l)) (List.map_map (f:=tabRow way qs) (g:=rV)).symm)
  refine (comp_M (v:=iV) (as:=List.range qs.length) (st:=fun j => stTb qs way low wants (some (.o 4 (((List.range qs.length).map (lowRow way qs)).map rV))) (di i) sums (di j) text told) (f:=fun j => .v (zV (tabT way qs (max i j) (min i j)))) (g:=fun j => zV (tabT way qs (max i j) (min i j))) (range_ev (fam_len hl rfl) (five hl)) (fun _ _ => rfl) (fun j hj => ⟨?_,rfl⟩) rl).trans (congrArg (fun l => some (D.t l)) (List.map_map (f:=fun j => tabT way qs (max i j) (min i j)) (g:=zV)).symm)
  have hmx : max i j < qs.length := Nat.max_lt.mpr ⟨lt i hi,lt j hj⟩
  have hmn : min i j < max i j + 1 := by lia
  exact ev_sub (ev_sub (evV rfl) (ev_bi (evXs_cons (evV rfl) (evXs_cons (evV rfl) rfl)) (max_ev i j)) (sub_at (v:=rV (lowRow way qs (max i j))) rfl rfl (map_lim (map_lim rl)) (by rw [List.getElem?_map,List.getElem?_map,List.getElem?_range hmx]; rfl)))
    (ev_bi (evXs_cons (evV rfl) (evXs_cons (evV rfl) rfl)) (min_ev i j)) (sub_at rfl rfl (map_lim (map_lim (Nat.le_trans (Nat.le_of_eq List.length_range) (Nat.le_trans (Nat.succ_le_of_lt hmx) (five hl))))) (by unfold lowRow; rw [List.getElem?_map,List.getElem?_map,List.getElem?_range hmn]; rfl))
theorem table_run (hl : qs.length ≤ 5) (hlt : ∀ q ∈ qs,q.1 < 32) (hw : way < 3) (h : low < 28) : R rest02 (n + 4) 15 [.list (qs.map pV),.int way,.int low] = some (.list (((List.range qs.length).map (tabRow way qs)).map rV)) := by
  obtain ⟨y5,y6,y7,t,d,e⟩ := tb_i (n:=n) hl hlt hw h (List.range qs.length) [] none none none none none (fun i hi => List.mem_range.mp hi) (by rw [List.length_range]; show 0 + qs.length ≤ 5; lia)
  rw [List.nil_append] at e
  exact run_ret (nm:=nm_law_table) (np:=3) (k:=12) (bx:=tm_law_table) rfl rfl (go_next (tb_wants (wants:=none) (lower:=none) (x5:=none) (sums:=none) (x7:=none) (text:=none) (told:=none) hl hlt hw h) (go_next (do_own (i:=4) (l:=[]) (ev_lst rfl rfl (Nat.zero_le _)) (show 4 < 15 by decide)) (go_next ((do_for rfl (range_ev (fam_len hl rfl) (five hl)) e).trans go_nil) (go_ret (do_ret _ (tb_out hl) rfl)))))
end
end
section
noncomputable def downs : List (List Nat) := [[1,3,5,15,17,51,85,255,257,771,1285,3855,4369,13107,21845,65535,65537,196611,327685,983055,1114129,3342387,5570645,16711935,16843009,50529027,84215045,252645135,286331153,858993459,1431655765,4294967295],[1,3,5,11,17,35,69,139,257,515,1029,2059,4113,8227,16453,32907,65537,131075,262149,524299,1048593,2097187,4194373,8388747,16777473,33554947,67109893,134219787,268439569,536879139,1073758277,2147516555],[1,3,5,13,17,49,81,209,257,769,1281,3329,4353,12545,20737,53505,65537,196609,327681,851969,1114113,3211265,5308417,13697025,16842753,50397185,83951617,218169345,285278209,822149121,1359020033,3506503681]]
noncomputable def down (w a : Nat) : Nat := (downs.getD w []).getD a 0
theorem down_all : (List.range 3).all (fun w => (List.range 32).all fun a => (List.range 32).all fun z => (down w a / 2 ^ z % 2 == 1) == leW w z a) = true := by decide +kernel
theorem down_meet : (List.range 3).all (fun w => (List.range 32).all fun a => (List.range 32).all fun b => down w (meetN w a b) == down w a &&& down w b) = true := by decide +kernel
theorem le_num : (List.range 3).all (fun w => (List.range 32).all fun a => leW w a a && (List.range 32).all fun b => !leW w a b || decide (a ≤ b)) = true := by decide +kernel
theorem all3w {f : Nat -> Nat -> Nat -> Bool} (h : (List.range 3).all (fun w => (List.range 32).all fun a => (List.range 32).all fun b => f w a b) = true) {w a b : Nat} (hw : w < 3) (ha : a < 32) (hb : b < 32) : f w a b = true :=
  List.all_eq_true.mp (List.all_eq_true.mp (List.all_eq_true.mp h w (List.mem_range.mpr hw)) a (List.mem_range.mpr ha)) b (List.mem_range.mpr hb)
theorem leW_bit {w a z : Nat} (hw : w < 3) (ha : a < 32) (hz : z < 32) : leW w z a = (down w a).testBit z := by
  have h := eq_of_beq (all3w down_all hw ha hz)
  rw [<- h,Nat.testBit_eq_decide_div_mod_eq,Bool.eq_iff_iff,beq_iff_eq,decide_eq_true_eq]
theorem leW_meet {w a b z : Nat} (hw : w < 3) (ha : a < 32) (hb : b < 32) (hz : z < 32) : leW w z (meetN w a b) = (leW w z a && leW w z b) := by
  rw [leW_bit hw (meet_32 hw ha hb) hz,leW_bit hw ha hz,leW_bit hw hb hz,eq_of_beq (all3w down_meet hw ha hb),Nat.testBit_and]
theorem leW_self {w a : Nat} (hw : w < 3) (ha : a < 32) : leW w a a = true :=
  (Bool.and_eq_true_iff.mp (List.all_eq_true.mp (List.all_eq_true.mp le_num w (List.mem_range.mpr hw)) a (List.mem_range.mpr ha))).1
theorem leW_le {w a b : Nat} (hw : w < 3) (ha : a < 32) (hb : b < 32) (h : b < a) : leW w a b = false := by
  have q := List.all_eq_true.mp (Bool.and_eq_true_iff.mp (List.all_eq_true.mp (List.all_eq_true.mp le_num w (List.mem_range.mpr hw)) a (List.mem_range.mpr ha))).2 b (List.mem_range.mpr hb)
  rw [decide_eq_false (Nat.not_le_of_lt h),Bool.or_false] at q
  exact Bool.not_eq_true' _ |>.mp q
noncomputable def esum (z : Nat -> Nat -> Bool) (d : Nat -> Int) : List Nat -> Nat -> Nat -> Int
  | [],_,_ => 0
  | k :: r,i,j => (if z k i && z k j then d k else 0) + esum z d r i j
section
variable {z : Nat -> Nat -> Bool} {d : Nat -> Int} {i j s : Nat} {r L : List Nat}
theorem esum_filter : ∀ L : List Nat,((L.filter fun k => z k i && z k j).map d).sum = esum z d L i j
  | [] => rfl
  | k :: r => by
    rw [List.filter_cons,esum,<- esum_filter r]
    cases z k i && z k j with
    | true => rfl
    | false => exact (Int.zero_add _).symm
theorem esum_comm : ∀ L : List Nat,esum z d L i j = esum z d L j i
  | [] => rfl
  | k :: r => by rw [esum,esum,esum_comm r,Bool.and_comm]
theorem esum_zero : ∀ {L : List Nat},(∀ k ∈ L,z k i = false) -> esum z d L i j = 0
  | [],_ => rfl
  | k :: r,h => by rw [esum,h k (.head _),esum_zero fun k hk => h k (.tail _ hk)]; rfl
structure Tri (z : Nat -> Nat -> Bool) (L : List Nat) : Prop where
  self : ∀ k ∈ L,z k k = true
  up : L.Pairwise fun a b => z b a = false
theorem Tri.tail (h : Tri z (s :: r)) : Tri z r := ⟨fun k hk => h.self k (.tail _ hk),(List.pairwise_cons.mp h.up).2⟩
theorem tri_head (h : Tri z (s :: r)) : esum z d (s :: r) s j = if z s j then d s else 0 := by
  rw [esum,esum_zero (List.pairwise_cons.mp h.up).1,Int.add_zero,h.self s (.head _),Bool.true_and]
theorem tri_self (h : Tri z (s :: r)) : esum z d (s :: r) s s = d s := by rw [tri_head h,h.self s (.head _),if_pos rfl]
theorem bareiss (h : Tri z (s :: r)) (p : Int) : (p * esum z d (s :: r) s s) * (p * esum z d (s :: r) i j) - (p * esum z d (s :: r) i s) * (p * esum z d (s :: r) s j) = p * (p * d s * esum z d r i j) := by
  rw [tri_self h,esum_comm (i:=i) (j:=s),tri_head h,tri_head h,esum]
  generalize esum z d r i j = e
  generalize d s = x
  cases z s i <;> cases z s j <;> simp only [Bool.and_self,Bool.and_false,Bool.false_and,Bool.and_true,if_true,Bool.false_eq_true,if_false] <;> grind
theorem esum_abs {M : Nat} (h : ∀ k,(d k).natAbs ≤ M) : ∀ L : List Nat,(esum z d L i j).natAbs ≤ L.length * M
  | [] => Nat.zero_le _
  | k :: r => by
    rw [esum,List.length_cons,Nat.succ_mul,Nat.add_comm]
    refine Nat.le_trans (Int.natAbs_add_le _ _) (Nat.add_le_add ?_ (esum_abs h r))
    split
    · exact h k
    · exact Nat.zero_le _
end
end
section
noncomputable abbrev zQ (way : Nat) (qs : List (Nat × Int)) (k i : Nat) : Bool := leW way (fstN qs k) (fstN qs i)
noncomputable def tbl (z : Nat -> Nat -> Bool) (d : Nat -> Int) (p : Int) (L : List Nat) : List (List Int) := L.map fun i => L.map fun j => p * esum z d L i j
section
variable {way : Nat} {qs : List (Nat × Int)} {i j w : Nat}
theorem filt_congr {α : Type} {p q : α -> Bool} : ∀ {l : List α},(∀ x ∈ l,p x = q x) -> l.filter p = l.filter q
  | [],_ => rfl
  | x :: l,h => by rw [List.filter_cons,List.filter_cons,h x (.head _),filt_congr fun y hy => h y (.tail _ hy)]
theorem tabT_eq (hlt : ∀ q ∈ qs,q.1 < 32) (hw : way < 3) (hi : i < qs.length) (hj : j < qs.length) : tabT way qs i j = esum (zQ way qs) (sndZ qs) (List.range qs.length) i j := by
  unfold tabT
  rw [filt_congr (q:=fun k => zQ way qs k i && zQ way qs k j) fun k hk => leW_meet hw (fst_lt hlt hi) (fst_lt hlt hj) (fst_lt hlt (List.mem_range.mp hk))]
  exact esum_filter _
theorem table_eq (hlt : ∀ q ∈ qs,q.1 < 32) (hw : way < 3) : (List.range qs.length).map (tabRow way qs) = tbl (zQ way qs) (sndZ qs) 1 (List.range qs.length) := by
  refine List.map_congr_left fun i hi => List.map_congr_left fun j hj => ?_
  have hi := List.mem_range.mp hi
  have hj := List.mem_range.mp hj
  show tabT way qs (max i j) (min i j) = 1 * _
  rw [Int.one_mul]
  rcases Nat.le_total i j with h | h
  · rw [Nat.max_eq_right h,Nat.min_eq_left h,tabT_eq hlt hw hj hi]
    exact esum_comm _
  · rw [Nat.max_eq_left h,Nat.min_eq_right h]
    exact tabT_eq hlt hw hi hj
theorem fst_lt_of (h : FamOk w qs) (hij : i < j) (hj : j < qs.length) : fstN qs i < fstN qs j := by
  have := List.pairwise_iff_getElem.mp h.inc i j (Nat.lt_trans hij hj) hj hij
  have e : ∀ k (hk : k < qs.length),qs.getD k (0,0) = qs[k] := fun k hk => by rw [List.getD,List.getElem?_eq_getElem hk]; rfl
  show (qs.getD i (0,0)).1 < (qs.getD j (0,0)).1
  rw [e i (Nat.lt_trans hij hj),e j hj]
  exact this
theorem tri_fam (h : FamOk w qs) (hw : way < 3) : Tri (zQ way qs) (List.range qs.length) := by
  refine ⟨fun k hk => leW_self hw (fst_lt h.lt (List.mem_range.mp hk)),?_⟩
  refine List.Pairwise.imp_of_mem (fun {a b} ha hb hab => ?_) List.pairwise_lt_range
  exact leW_le hw (fst_lt h.lt (List.mem_range.mp hb)) (fst_lt h.lt (List.mem_range.mp ha)) (fst_lt_of h hab (List.mem_range.mp hb))
theorem snd_bd (h : FamOk w qs) (hi : i < qs.length) : 2 ^ w ≤ (sndZ qs i).natAbs /\ (sndZ qs i).natAbs < 2 ^ (w + 1) := h.sh _ (List.mem_of_getElem? (getD_of hi))
theorem snd_le (h : FamOk w qs) (k : Nat) : (sndZ qs k).natAbs ≤ 2 ^ (w + 1) := by
  by_cases hk : k < qs.length
  · exact Nat.le_of_lt (snd_bd h hk).2
  · have : qs.getD k (0,0) = (0,0) := by rw [List.getD,List.getElem?_eq_none (Nat.le_of_not_lt hk)]; rfl
    show (qs.getD k (0,0)).2.natAbs ≤ _
    rw [this]
    exact Nat.zero_le _
end
noncomputable def crn (d : Nat -> Int) : Int -> List Nat -> List Int
  | _,[] => []
  | p,s :: r => p * d s :: crn d (p * d s) r
end
section
theorem eqv_rV (a b : List Int) : (rV a).py.eqv (rV b).py = (a == b) := by
  show PyData.eqv (.list (V.pys (a.map zV))) (.list (V.pys (b.map zV))) = _
  rw [PyData.eqv]
  exact eqv_all (fun _ _ => rfl) a b
theorem eq_rows (l m : List (List Int)) : eqD (.list (l.map rV)) (.list (m.map rV)) = some (l == m) := eq_lists (n:=1) l m eqv_rV (fun a => ok_list (List.forall_mem_map.mpr fun _ _ => ok_int _)) (by decide)
theorem intsV_1 (m : Nat) : intsV 1 m = (List.range m).map fun k => iV (k + 1) := by
  have h : intsV ((1 : Nat) : Int) m = _ := intsV_range m 1
  rw [List.range'_eq_map_range,List.map_map] at h
  refine h.trans (List.map_congr_left fun k _ => ?_)
  show iV (1 + k) = _
  rw [Nat.add_comm]
theorem range1_ev {ε : Ev} {ρ : Loc} {y : X} {m : Nat} (hy : evE ε y ρ = some (.v (.int ((m + 1 : Nat) : Int)))) (hm : m ≤ 1000) : evI ε (.bi .range (.cons (.lit (.int 1)) (.cons y .nil))) ρ = some ((List.range m).map fun k => iV (k + 1)) := by
  have e : (if -(2 ^ 40) ≤ (1 : Int) /\ (1 : Int) ≤ ((m + 1 : Nat) : Int) /\ ((m + 1 : Nat) : Int) ≤ 1 + lim /\ ((m + 1 : Nat) : Int) ≤ 2 ^ 40 then some (intsV 1 (((m + 1 : Nat) : Int) - 1).toNat) else none) = some ((List.range m).map fun k => iV (k + 1)) := by
    have h1 : ((m + 1 : Nat) : Int) ≤ 1 + lim := by show ((m + 1 : Nat) : Int) ≤ 1 + ((2 ^ 20 : Nat) : Int); lia
    rw [if_pos ⟨by decide,by lia,h1,by lia⟩,<- intsV_1]
    exact congrArg (fun n => some (intsV 1 n)) (by lia)
  exact (show (evE ε y ρ).bind (fun v => v.int.bind fun m' => if -(2 ^ 40) ≤ (1 : Int) /\ (1 : Int) ≤ m' /\ m' ≤ 1 + lim /\ m' ≤ 2 ^ 40 then some (intsV 1 (m' - 1).toNat) else none) = _ from bindK hy e)
theorem rangeD (r : List Nat) (F : Nat -> Int) : (List.range r.length).map (fun k => F (r.getD k 0)) = r.map F := by
  refine List.ext_getElem (by rw [List.length_map,List.length_map,List.length_range]) fun k h1 h2 => ?_
  rw [List.length_map] at h2
  rw [List.getElem_map,List.getElem_map,List.getElem_range,List.getD,List.getElem?_eq_getElem h2]
  rfl
section
variable {h0 r0 p : Int} {f g : Nat -> Int} {r : List Nat} {cl : List Int} {acc : List (List Int)} {tb cs sm row en pa hd : Option D} {ε : Ev} {n : Nat}
noncomputable abbrev stC (tb cs hd sm row en pa : Option D) : Loc := [tb,cs,hd,sm,row,en,pa,none,none,none,none]
theorem at_0 {ρ : Loc} {i : Nat} {x : Int} {l : List Int} (h : ρ[i]? = some (some (.v (rV (x :: l))))) (hl : l.length ≤ 1000) : evE ε (.sub (.var i) (.lit (.int 0))) ρ = some (.v (.int x)) :=
  ev_sub (evV h) rfl (sub_at (k:=0) rfl rfl (map_lim (show l.length + 1 ≤ lim from Nat.le_trans (Nat.succ_le_succ hl) (le_lim (by decide)))) rfl)
theorem at_k {ρ : Loc} {i j k : Nat} {x : Int} (h : ρ[i]? = some (some (.v (rV (x :: r.map f))))) (hj : ρ[j]? = some (di ((k + 1 : Nat) : Int))) (hk : k < r.length) (hl : r.length ≤ 1000) : evE ε (.sub (.var i) (.var j)) ρ = some (.v (.int (f (r.getD k 0)))) :=
  ev_sub (evV h) (evV hj) (sub_at (k:=k + 1) rfl rfl (map_lim (show (r.map f).length + 1 ≤ lim from Nat.le_trans (Nat.succ_le_succ (map_lim hl)) (le_lim (by decide)))) (by
    rw [List.map_cons,List.getElem?_cons_succ,List.getElem?_map,List.getElem?_map,List.getD,List.getElem?_eq_getElem hk]; rfl))
theorem c_3 (hl : r.length ≤ 5) (b0 : bits h0 ≤ 100000) (b1 : bits r0 ≤ 100000) (bf : ∀ j,bits (f j) ≤ 100000) (bg : ∀ j,bits (g j) ≤ 100000) :
    evS ε s3_law_corners (stC tb cs (some (.v (rV (h0 :: r.map f)))) sm (some (.v (rV (r0 :: r.map g)))) en pa) = some (.next,stC tb cs (some (.v (rV (h0 :: r.map f)))) sm (some (.v (rV (r0 :: r.map g)))) (some (.v (rV (r.map fun j => h0 * g j - r0 * f j)))) pa) := by
  have l5 : r.length ≤ 1000 := Nat.le_trans hl (by decide)
  have ln : evE ε (.bi .len (.cons (.var 4) .nil)) (stC tb cs (some (.v (rV (h0 :: r.map f)))) sm (some (.v (rV (r0 :: r.map g)))) en pa) = some (.v (.int ((r.length + 1 : Nat) : Int))) :=
    (ev_lenI (l:=(r0 :: r.map g).map zV) (evV rfl) rfl rfl (map_lim (show (r.map g).length + 1 ≤ lim from Nat.le_trans (Nat.succ_le_succ (map_lim l5)) (le_lim (by decide))))).trans (congrArg (fun n : Nat => some (D.v (.int n))) (by rw [List.length_map,List.length_cons,List.length_map]))
  refine do_asg ((comp_M (v:=fun k => iV (k + 1)) (as:=List.range r.length) (st:=fun k => (stC tb cs (some (.v (rV (h0 :: r.map f)))) sm (some (.v (rV (r0 :: r.map g)))) en pa).set 7 (di ((k + 1 : Nat) : Int))) (f:=fun k => .v (zV (h0 * g (r.getD k 0) - r0 * f (r.getD k 0)))) (g:=fun k => zV (h0 * g (r.getD k 0) - r0 * f (r.getD k 0))) (range1_ev ln l5) (fun _ _ => rfl) (fun k hk => ⟨?_,rfl⟩) (Nat.le_trans (Nat.le_of_eq List.length_range) (five hl))).trans (congrArg (fun l => some (D.t l)) ?_)) rfl rfl
  · have hk := List.mem_range.mp hk
    exact ev_bin (ev_bin (at_0 rfl (map_lim l5)) (at_k rfl rfl hk l5) (mulZ (Nat.le_trans (Nat.add_le_add b0 (bg _)) (by decide)))) (ev_bin (at_0 rfl (map_lim l5)) (at_k rfl rfl hk l5) (mulZ (Nat.le_trans (Nat.add_le_add b1 (bf _)) (by decide)))) rfl
  · exact (List.map_map (f:=fun k => h0 * g (r.getD k 0) - r0 * f (r.getD k 0)) (g:=zV)).symm.trans (congrArg (List.map zV) (rangeD r fun j => h0 * g j - r0 * f j))
theorem ne_corners (cl : List Int) : evT ε (.cmp .NotEq (.var 1) (.lst .nil)) (stC tb (some (.o 1 (cl.map zV))) hd sm row en pa) = some (!(cl == [])) :=
  ev_cmp (a:=.o 1 (cl.map zV)) (b:=.t []) (evV rfl) (ev_lst rfl rfl (Nat.zero_le _)) (congrArg (Option.map (!·)) (eq_zs cl []))
end
end
section
section
variable {h0 r0 p : Int} {f g : Nat -> Int} {r : List Nat} {cl es : List Int} {acc : List (List Int)} {tb cs sm row en pa hd : Option D} {ε : Ev} {n : Nat}
noncomputable abbrev divV (p : Int) (e : Int) : V := .tup [.int (e.fdiv p),.int (e.fmod p)]
noncomputable abbrev partsV (p : Int) (es : List Int) : Option D := some (.v (.list (es.map (divV p))))
theorem last_cl {ρ : Loc} (h : ρ[1]? = some (some (.o 1 (cl.map zV)))) (hc : cl.getLast? = some p) (hl : cl.length ≤ 5) : evE ε (.sub (.var 1) (.neg (.lit (.int 1)))) ρ = some (.v (.int p)) :=
  ev_sub (evV h) rfl (sub_last (l:=cl.map zV) rfl rfl (map_lim (five hl)) (List.getLast?_map.trans (congrArg (Option.map zV) hc)))
theorem c_4 (hc : cl.getLast? = some p) (hl : cl.length ≤ 5) (he5 : es.length ≤ 5) (hp : p ≠ 0) (hb : bits p < 9000) (he : ∀ e ∈ es,bits e ≤ 100 * bits p) :
    evS (EvR rest02 (n + 40)) s4_law_corners (stC tb (some (.o 1 (cl.map zV))) hd sm row (some (.v (rV es))) pa) = some (.next,stC tb (some (.o 1 (cl.map zV))) hd sm row (some (.v (rV es))) (partsV p es)) :=
  do_asg (comp_M (v:=zV) (st:=fun e => (stC tb (some (.o 1 (cl.map zV))) hd sm row (some (.v (rV es))) pa).set 8 (some (.v (.int e)))) (f:=fun e => .v (divV p e)) (g:=divV p) (evI_var rfl rfl (map_lim (five he5))) (fun _ _ => rfl)
    (fun e h => ⟨evE_call (evXs_cons (evV rfl) (evXs_cons (last_cl rfl hc hl) rfl)) rfl (divmod_eq (rest:=rest02) (j:=n) hp hb (he e h)),rfl⟩) (five he5)) rfl rfl
theorem ne_zero {ρ : Loc} {x : Int} (h : ρ[10]? = some (some (.v (.int x)))) : evT ε (.cmp .NotEq (.var 10) (.lit (.int 0))) ρ = some (!(x == 0)) := ev_cmp (evV h) rfl rfl
theorem c_5 (he5 : es.length ≤ 5) (he : ∀ e ∈ es,e.fmod p = 0) : evS ε s5_law_corners (stC tb cs hd sm row en (partsV p es)) = some (.next,stC tb cs hd sm row en (partsV p es)) :=
  if_no (ev_cmp (comp_A (v:=divV p) (st:=fun e => stC tb cs hd sm row en (partsV p es) |>.take 9 |>.append [some (.v (.int (e.fdiv p))),some (.v (.int (e.fmod p)))]) (p:=fun e => !(e.fmod p == 0)) (f:=fun e => .v (.int (e.fmod p))) (g:=fun e => zV (e.fmod p)) (evI_var rfl rfl (map_lim (five he5))) (fun _ _ => rfl) (fun e _ => and_one (ne_zero rfl)) (fun e _ _ => ⟨evV rfl,rfl⟩) (five he5)) (ev_lst rfl rfl (Nat.zero_le _))
    (by rw [List.filter_eq_nil_iff.mpr fun e h => by rw [he e h]; decide]; rfl)) go_nil
theorem c_6 (he5 : es.length ≤ 5) : evS ε s6_law_corners (stC tb cs hd sm row en (partsV p es)) = some (.next,stC tb cs hd sm row (some (.v (rV (es.map fun e => e.fdiv p)))) (partsV p es)) :=
  do_asg ((comp_M (v:=divV p) (st:=fun e => stC tb cs hd sm row en (partsV p es) |>.take 9 |>.append [some (.v (.int (e.fdiv p))),some (.v (.int (e.fmod p)))]) (f:=fun e => .v (.int (e.fdiv p))) (g:=fun e => zV (e.fdiv p)) (evI_var rfl rfl (map_lim (five he5))) (fun _ _ => rfl) (fun e _ => ⟨evV rfl,rfl⟩) (five he5)).trans (congrArg (fun l => some (D.t l)) (List.map_map (f:=fun e : Int => e.fdiv p) (g:=zV)).symm)) rfl rfl
noncomputable def Cut (cl : List Int) (p : Int) (es fs : List Int) : Prop := (cl = [] /\ es = fs) ∨ (cl.getLast? = some p /\ p ≠ 0 /\ bits p < 9000 /\ (∀ e ∈ es,bits e ≤ 100 * bits p /\ e.fmod p = 0) /\ fs = es.map fun e => e.fdiv p)
theorem c_7 {fs : List Int} (hl : cl.length ≤ 5) (he5 : es.length ≤ 5) (h : Cut cl p es fs) : ∃ pa',evS (EvR rest02 (n + 40)) s7_law_corners (stC tb (some (.o 1 (cl.map zV))) hd sm row (some (.v (rV es))) pa) = some (.next,stC tb (some (.o 1 (cl.map zV))) hd sm row (some (.v (rV fs))) pa') :=
  h.elim (fun ⟨h1,h2⟩ => ⟨pa,h2 ▸ if_no ((ne_corners cl).trans (congrArg (fun l : List Int => some (!(l == []))) h1)) go_nil⟩) fun ⟨h1,h2,h3,h4,h5⟩ => ⟨partsV p es,by
    have hne : (cl == []) = false := beq_eq_false_iff_ne.mpr fun q => by rw [q] at h1; cases h1
    rw [h5]
    exact if_yes ((ne_corners cl).trans (congrArg (fun b => some (!b)) hne)) (go_next (c_4 h1 hl he5 h2 h3 fun e he => (h4 e he).1) (go_next (c_5 he5 fun e he => (h4 e he).2) (go_next (c_6 he5) go_nil)))⟩
noncomputable abbrev bodyR (ε : Ev) : V -> Loc -> Option (Fl × Loc) := fun d ρ => (bindT (.n 4) d ρ).bind fun ρ' => evSs ε (.cons s3_law_corners (.cons s7_law_corners (.cons (.app 3 (.var 5)) .nil))) ρ'
theorem c_row {fs : List Int} (hl : r.length ≤ 5) (hcl : cl.length ≤ 5) (ha : acc.length ≤ 5) (b0 : bits h0 ≤ 100000) (b1 : bits r0 ≤ 100000) (bf : ∀ j,bits (f j) ≤ 100000) (bg : ∀ j,bits (g j) ≤ 100000) (h : Cut cl p (r.map fun j => h0 * g j - r0 * f j) fs) :
    ∃ pa',bodyR (EvR rest02 (n + 40)) (rV (r0 :: r.map g)) (stC tb (some (.o 1 (cl.map zV))) (some (.v (rV (h0 :: r.map f)))) (some (.o 3 (acc.map rV))) row en pa) = some (.next,stC tb (some (.o 1 (cl.map zV))) (some (.v (rV (h0 :: r.map f)))) (some (.o 3 ((acc ++ [fs]).map rV))) (some (.v (rV (r0 :: r.map g)))) (some (.v (rV fs))) pa') := by
  obtain ⟨pa',e⟩ := c_7 (n:=n) (tb:=tb) (hd:=some (.v (rV (h0 :: r.map f)))) (sm:=some (.o 3 (acc.map rV))) (row:=some (.v (rV (r0 :: r.map g)))) (pa:=pa) hcl (map_lim hl) h
  refine ⟨pa',?_⟩
  rw [List.map_append (f:=rV)]
  have s4 : evS (EvR rest02 (n + 40)) (.app 3 (.var 5)) (stC tb (some (.o 1 (cl.map zV))) (some (.v (rV (h0 :: r.map f)))) (some (.o 3 (acc.map rV))) (some (.v (rV (r0 :: r.map g)))) (some (.v (rV fs))) pa') = some (.next,stC tb (some (.o 1 (cl.map zV))) (some (.v (rV (h0 :: r.map f)))) (some (.o 3 (acc.map rV ++ [fs].map rV))) (some (.v (rV (r0 :: r.map g)))) (some (.v (rV fs))) pa') := do_app (evV rfl) rfl rfl (map_lim (five ha))
  exact bindK (a:=stC tb (some (.o 1 (cl.map zV))) (some (.v (rV (h0 :: r.map f)))) (some (.o 3 (acc.map rV))) (some (.v (rV (r0 :: r.map g)))) en pa) rfl (go_next (c_3 hl b0 b1 bf bg) (go_next e (go_next s4 go_nil)))
end
end
section
section
variable {h0 p : Int} {f G0 : Nat -> Int} {G : Nat -> Nat -> Int} {N : Nat -> List Int} {r : List Nat} {cl : List Int} {tb hd : Option D} {n : Nat}
theorem c_rows (hl : r.length ≤ 5) (hcl : cl.length ≤ 5) (b0 : bits h0 ≤ 100000) (b1 : ∀ i,bits (G0 i) ≤ 100000) (bf : ∀ j,bits (f j) ≤ 100000) (bg : ∀ i j,bits (G i j) ≤ 100000) : ∀ (r' : List Nat) (acc : List (List Int)) (row en pa : Option D),(∀ i ∈ r',Cut cl p (r.map fun j => h0 * G i j - G0 i * f j) (N i)) -> acc.length + r'.length ≤ 5 ->
    ∃ row' en' pa',forL (bodyR (EvR rest02 (n + 40))) ((r'.map fun i => G0 i :: r.map (G i)).map rV) (stC tb (some (.o 1 (cl.map zV))) (some (.v (rV (h0 :: r.map f)))) (some (.o 3 (acc.map rV))) row en pa) = some (.next,stC tb (some (.o 1 (cl.map zV))) (some (.v (rV (h0 :: r.map f)))) (some (.o 3 ((acc ++ r'.map N).map rV))) row' en' pa')
  | [],acc,row,en,pa,_,_ => ⟨row,en,pa,(congrArg (fun a : List (List Int) => some (Fl.next,stC tb (some (.o 1 (cl.map zV))) (some (.v (rV (h0 :: r.map f)))) (some (.o 3 (a.map rV))) row en pa)) (List.append_nil acc)).symm⟩
  | i :: r',acc,row,en,pa,hc,ha => by
    have ha' : acc.length + r'.length + 1 ≤ 5 := ha
    obtain ⟨pa1,e1⟩ := c_row (n:=n) (tb:=tb) (row:=row) (en:=en) (pa:=pa) (acc:=acc) hl hcl (by lia) b0 (b1 i) bf (bg i) (hc i (.head _))
    obtain ⟨row2,en2,pa2,e2⟩ := c_rows hl hcl b0 b1 bf bg r' (acc ++ [N i]) (some (.v (rV (G0 i :: r.map (G i))))) (some (.v (rV (N i)))) pa1 (fun k hk => hc k (.tail _ hk)) (by rw [List.length_append]; show acc.length + 1 + r'.length ≤ 5; lia)
    refine ⟨row2,en2,pa2,(for_go e1).trans (e2.trans ?_)⟩
    rw [List.append_assoc]; rfl
end
section
variable {z : Nat -> Nat -> Bool} {d : Nat -> Int} {p : Int} {s w : Nat} {r L : List Nat} {cl : List Int} {hd sm row en pa : Option D} {n : Nat}
noncomputable abbrev tbV (z : Nat -> Nat -> Bool) (d : Nat -> Int) (p : Int) (L : List Nat) : Option D := some (.v (.list ((tbl z d p L).map rV)))
noncomputable abbrev bodyW2 : Ss := .cons s1_law_corners (.cons s2_law_corners (.cons (.own 3 (.lst .nil)) (.cons s8_law_corners (.cons s9_law_corners (.cons (.fz 3) (.cons (.asg (.n 0) (.var 3)) .nil))))))
theorem slc_1 {ε : Ev} {ρ : Loc} {l : List V} (h : ρ[0]? = some (some (.v (.list l)))) (hl : l.length ≤ lim) : evI ε (.slc (.var 0) (.lit (.int 1)) .no .no) ρ = some (l.drop 1) :=
  evI_slc (ev_slc (evV h) rfl rfl rfl ((slc_plain (l:=some 1) (h:=none) (part_int (by decide)) rfl).trans ((if_pos hl).trans (congrArg (fun l => some (D.t l)) (cut_from l 1))))) rfl (Nat.le_trans (Nat.le_of_eq List.length_drop) (Nat.le_trans (Nat.sub_le _ _) hl))
theorem c_body (hL : (s :: r).length ≤ 5) (hcl : cl.length ≤ 5) (hne : p * esum z d (s :: r) s s ≠ 0) (bb : ∀ i j,bits (p * esum z d (s :: r) i j) ≤ 100000)
    (hc : ∀ i ∈ r,Cut cl p (r.map fun j => (p * esum z d (s :: r) s s) * (p * esum z d (s :: r) i j) - (p * esum z d (s :: r) i s) * (p * esum z d (s :: r) s j)) (r.map fun j => p * d s * esum z d r i j)) :
    ∃ hd' sm' row' en' pa',evSs (EvR rest02 (n + 40)) bodyW2 (stC (tbV z d p (s :: r)) (some (.o 1 (cl.map zV))) hd sm row en pa) = some (.next,stC (tbV z d (p * d s) r) (some (.o 1 ((cl ++ [p * esum z d (s :: r) s s]).map zV))) hd' sm' row' en' pa') := by
  have hr : r.length ≤ 5 := Nat.le_of_succ_le hL
  obtain ⟨row',en',pa',e⟩ := c_rows (n:=n) (tb:=tbV z d p (s :: r)) (N:=fun i => r.map fun j => p * d s * esum z d r i j) (G:=fun i j => p * esum z d (s :: r) i j) (G0:=fun i => p * esum z d (s :: r) i s) (f:=fun j => p * esum z d (s :: r) s j) hr hcl (bb s s) (fun i => bb i s) (fun j => bb s j) bb r [] row en pa hc (by show 0 + r.length ≤ 5; lia)
  rw [List.nil_append] at e
  have tl : ((tbl z d p (s :: r)).map rV).length ≤ lim := map_lim (map_lim (five hL))
  have s1 : evS (EvR rest02 (n + 40)) s1_law_corners (stC (tbV z d p (s :: r)) (some (.o 1 (cl.map zV))) hd sm row en pa) = some (.next,stC (tbV z d p (s :: r)) (some (.o 1 (cl.map zV))) (some (.v (rV (p * esum z d (s :: r) s s :: r.map fun j => p * esum z d (s :: r) s j)))) sm row en pa) :=
    do_asg (ev_sub (evV rfl) rfl (sub_at (k:=0) rfl rfl tl rfl)) rfl rfl
  have h0 : ∀ sm row en pa,evE (EvR rest02 (n + 40)) (.sub (.var 2) (.lit (.int 0))) (stC (tbV z d p (s :: r)) (some (.o 1 (cl.map zV))) (some (.v (rV (p * esum z d (s :: r) s s :: r.map fun j => p * esum z d (s :: r) s j)))) sm row en pa) = some (.v (.int (p * esum z d (s :: r) s s))) := fun _ _ _ _ => at_0 rfl (map_lim (Nat.le_trans hr (by decide)))
  have s2 : evS (EvR rest02 (n + 40)) s2_law_corners (stC (tbV z d p (s :: r)) (some (.o 1 (cl.map zV))) (some (.v (rV (p * esum z d (s :: r) s s :: r.map fun j => p * esum z d (s :: r) s j)))) sm row en pa) = some (.next,stC (tbV z d p (s :: r)) (some (.o 1 (cl.map zV))) (some (.v (rV (p * esum z d (s :: r) s s :: r.map fun j => p * esum z d (s :: r) s j)))) sm row en pa) := if_no (ev_cmp (h0 sm row en pa) rfl (congrArg some (beq_eq_false_iff_ne.mpr hne))) go_nil
  have s8 : evS (EvR rest02 (n + 40)) s8_law_corners (stC (tbV z d p (s :: r)) (some (.o 1 (cl.map zV))) (some (.v (rV (p * esum z d (s :: r) s s :: r.map fun j => p * esum z d (s :: r) s j)))) (some (.o 3 [])) row en pa) = some (.next,stC (tbV z d p (s :: r)) (some (.o 1 (cl.map zV))) (some (.v (rV (p * esum z d (s :: r) s s :: r.map fun j => p * esum z d (s :: r) s j)))) (some (.o 3 ((tbl z d (p * d s) r).map rV))) row' en' pa') := (do_for rfl (slc_1 rfl tl) e).trans go_nil
  have s9 : evS (EvR rest02 (n + 40)) s9_law_corners (stC (tbV z d p (s :: r)) (some (.o 1 (cl.map zV))) (some (.v (rV (p * esum z d (s :: r) s s :: r.map fun j => p * esum z d (s :: r) s j)))) (some (.o 3 ((tbl z d (p * d s) r).map rV))) row' en' pa') = some (.next,stC (tbV z d p (s :: r)) (some (.o 1 (cl.map zV ++ [p * esum z d (s :: r) s s].map zV))) (some (.v (rV (p * esum z d (s :: r) s s :: r.map fun j => p * esum z d (s :: r) s j)))) (some (.o 3 ((tbl z d (p * d s) r).map rV))) row' en' pa') :=
    do_app (h0 _ _ _ _) rfl rfl (map_lim (five hcl))
  have s10 : evS (EvR rest02 (n + 40)) (.fz 3) (stC (tbV z d p (s :: r)) (some (.o 1 (cl.map zV ++ [p * esum z d (s :: r) s s].map zV))) (some (.v (rV (p * esum z d (s :: r) s s :: r.map fun j => p * esum z d (s :: r) s j)))) (some (.o 3 ((tbl z d (p * d s) r).map rV))) row' en' pa') = some (.next,stC (tbV z d p (s :: r)) (some (.o 1 (cl.map zV ++ [p * esum z d (s :: r) s s].map zV))) (some (.v (rV (p * esum z d (s :: r) s s :: r.map fun j => p * esum z d (s :: r) s j)))) (tbV z d (p * d s) r) row' en' pa') := do_fz rfl
  have s11 : evS (EvR rest02 (n + 40)) (.asg (.n 0) (.var 3)) (stC (tbV z d p (s :: r)) (some (.o 1 (cl.map zV ++ [p * esum z d (s :: r) s s].map zV))) (some (.v (rV (p * esum z d (s :: r) s s :: r.map fun j => p * esum z d (s :: r) s j)))) (tbV z d (p * d s) r) row' en' pa') = some (.next,stC (tbV z d (p * d s) r) (some (.o 1 (cl.map zV ++ [p * esum z d (s :: r) s s].map zV))) (some (.v (rV (p * esum z d (s :: r) s s :: r.map fun j => p * esum z d (s :: r) s j)))) (tbV z d (p * d s) r) row' en' pa') := do_asg (evV rfl) rfl rfl
  refine ⟨(some (.v (rV (p * esum z d (s :: r) s s :: r.map fun j => p * esum z d (s :: r) s j)))),tbV z d (p * d s) r,row',en',pa',?_⟩
  rw [List.map_append (f:=zV)]
  exact go_next s1 (go_next s2 (go_next (do_own (l:=[]) (ev_lst rfl rfl (Nat.zero_le _)) (show 3 < 11 by decide)) (go_next s8 (go_next s9 (go_next s10 (go_next s11 go_nil))))))
end
end
section
theorem mul_bits (x y : Int) : bits (x * y) ≤ bits x + bits y := by
  refine intBits_le_iff.mpr ?_
  rw [Int.natAbs_mul,Nat.pow_add]
  exact Nat.mul_lt_mul'' (intBits_le_iff.mp (Nat.le_refl (bits x))) (intBits_le_iff.mp (Nat.le_refl (bits y)))
theorem bits_up {x : Int} {k : Nat} (h : x.natAbs ≤ 2 ^ k) : bits x ≤ k + 1 := intBits_le_iff.mpr (Nat.lt_of_le_of_lt h (Nat.pow_lt_pow_right (by decide) (Nat.lt_succ_self k)))
theorem bits_dn {x : Int} {k : Nat} (h : 2 ^ k ≤ x.natAbs) : k + 1 ≤ bits x := Nat.lt_of_not_le fun q => Nat.lt_irrefl _ (Nat.lt_of_lt_of_le (intBits_le_iff.mp q) h)
structure Dok (w : Nat) (d : Nat -> Int) (L : List Nat) : Prop where
  w1 : 1 ≤ w
  w2 : w ≤ 1400
  lo : ∀ k ∈ L,2 ^ w ≤ (d k).natAbs
  hi : ∀ k,(d k).natAbs ≤ 2 ^ (w + 1)
structure Pok (w c : Nat) (p : Int) : Prop where
  lo : 2 ^ (c * w) ≤ p.natAbs
  hi : p.natAbs ≤ 2 ^ (c * (w + 1))
section
variable {w c s : Nat} {p : Int} {d : Nat -> Int} {z : Nat -> Nat -> Bool} {r L : List Nat} {cl : List Int} {i j : Nat}
theorem Pok.one : Pok w 0 1 := ⟨by rw [Nat.zero_mul]; exact Nat.le_refl _,by rw [Nat.zero_mul]; exact Nat.le_refl _⟩
theorem Pok.next (h : Pok w c p) (D : Dok w d L) (hs : s ∈ L) : Pok w (c + 1) (p * d s) :=
  ⟨by rw [Nat.succ_mul,Nat.pow_add,Int.natAbs_mul]; exact Nat.mul_le_mul h.lo (D.lo s hs),by rw [Nat.succ_mul,Nat.pow_add,Int.natAbs_mul]; exact Nat.mul_le_mul h.hi (D.hi s)⟩
theorem Pok.ne (h : Pok w c p) : p ≠ 0 := fun q => by have := h.lo; rw [q] at this; exact absurd (Nat.le_trans (Nat.two_pow_pos _) this) (by decide)
theorem Pok.bits (h : Pok w c p) : bits p ≤ c * (w + 1) + 1 := bits_up h.hi
theorem Pok.bits_lo (h : Pok w c p) : c * w + 1 ≤ Mine.bits p := bits_dn h.lo
theorem Dok.tail (D : Dok w d (s :: r)) : Dok w d r := ⟨D.w1,D.w2,fun k hk => D.lo k (.tail _ hk),D.hi⟩
theorem esum_bits (D : Dok w d L) {M : List Nat} (h : M.length ≤ 5) : bits (esum z d M i j) ≤ w + 5 := by
  refine bits_up (k:=w + 4) (Nat.le_trans (esum_abs D.hi M) (Nat.le_trans (Nat.mul_le_mul_right _ h) ?_))
  exact Nat.le_trans (Nat.mul_le_mul_right _ (show 5 ≤ 2 ^ 3 by decide)) (Nat.le_of_eq ((Nat.pow_add 2 3 (w + 1)).symm.trans (congrArg (2 ^ ·) (by lia))))
theorem cw_le {c : Nat} (hc : c ≤ 5) (D : Dok w d L) : c * (w + 1) ≤ 7005 := Nat.le_trans (Nat.mul_le_mul hc (Nat.succ_le_succ D.w2)) (by decide)
theorem pe_bits (P : Pok w c p) (hc : c ≤ 5) (D : Dok w d L) {M : List Nat} (h : M.length ≤ 5) : bits (p * esum z d M i j) ≤ 100000 := by
  have h1 := mul_bits p (esum z d M i j)
  have h2 := P.bits
  have h3 := esum_bits (z:=z) (i:=i) (j:=j) D h
  have h4 := cw_le hc D
  have h5 := D.w2
  lia
theorem num_len {m c w a b : Nat} (hc : 1 ≤ c) (hc4 : c ≤ 4) (hm : m = c * w) (hw : w ≤ m) (h1 : a ≤ c * (w + 1) + 1 + ((c + 1) * (w + 1) + 1 + (w + 5))) (h2 : m + 1 ≤ b) : a ≤ 100 * b := by
  rw [Nat.succ_mul,Nat.mul_succ,<- hm] at h1
  lia
theorem div_ok (P : Pok w c p) (hc : 1 ≤ c) (hc4 : c ≤ 4) (D : Dok w d (s :: r)) {M : List Nat} (h : M.length ≤ 5) : bits (p * (p * d s * esum z d M i j)) ≤ 100 * bits p := by
  have P' := P.next D (List.mem_cons_self (a:=s) (l:=r))
  have h1 := Nat.le_trans (mul_bits p (p * d s * esum z d M i j)) (Nat.add_le_add P.bits (Nat.le_trans (mul_bits (p * d s) (esum z d M i j)) (Nat.add_le_add P'.bits (esum_bits (z:=z) (i:=i) (j:=j) D h))))
  exact num_len hc hc4 rfl (Nat.le_trans (Nat.le_of_eq (Nat.one_mul w).symm) (Nat.mul_le_mul_right w hc)) h1 P.bits_lo
theorem exact_div (hp : p ≠ 0) (x : Int) : (p * x).fdiv p = x /\ (p * x).fmod p = 0 := by
  rcases Int.lt_or_gt_of_ne hp with h | h
  · exact div_told_neg (by rw [Int.add_zero]) (Int.le_refl 0) h
  · exact div_told (by rw [Int.add_zero]) (Int.le_refl 0) h
noncomputable def Lp (cl : List Int) (p : Int) : Prop := (cl = [] /\ p = 1) ∨ cl.getLast? = some p
theorem cut_of (hT : Tri z (s :: r)) (D : Dok w d (s :: r)) (P : Pok w cl.length p) (hl : cl.length + r.length + 1 ≤ 5) (hp : Lp cl p) (i : Nat) :
    Cut cl p (r.map fun j => (p * esum z d (s :: r) s s) * (p * esum z d (s :: r) i j) - (p * esum z d (s :: r) i s) * (p * esum z d (s :: r) s j)) (r.map fun j => p * d s * esum z d r i j) := by
  have e : (r.map fun j => (p * esum z d (s :: r) s s) * (p * esum z d (s :: r) i j) - (p * esum z d (s :: r) i s) * (p * esum z d (s :: r) s j)) = r.map fun j => p * (p * d s * esum z d r i j) := List.map_congr_left fun j _ => bareiss hT p
  rw [e]
  by_cases hc : cl = []
  · refine .inl ⟨hc,List.map_congr_left fun j _ => ?_⟩
    have hp1 : p = 1 := hp.elim (·.2) fun h => by rw [hc] at h; cases h
    rw [hp1,Int.one_mul]
  · refine .inr ⟨hp.elim (fun h => absurd h.1 hc) id,P.ne,?_,fun e he => ?_,?_⟩
    · have h1 := P.bits
      have h2 : cl.length * (w + 1) ≤ 4 * 1401 := Nat.mul_le_mul (by lia) (Nat.succ_le_succ D.w2)
      lia
    · obtain ⟨j,_,rfl⟩ := List.mem_map.mp he
      exact ⟨div_ok P (Nat.pos_of_ne_zero fun q => hc (List.length_eq_zero_iff.mp q)) (by lia) D (by lia),(exact_div P.ne _).2⟩
    · rw [List.map_map]
      exact List.map_congr_left fun j _ => ((exact_div P.ne _).1).symm
end
section
variable {z : Nat -> Nat -> Bool} {d : Nat -> Int} {w n : Nat}
noncomputable abbrev testC : X := .cmp .NotEq (.var 0) (.lst .nil)
theorem c_test {ε : Ev} {p : Int} {L : List Nat} {cs hd sm row en pa : Option D} : evT ε testC (stC (tbV z d p L) cs hd sm row en pa) = some (!(tbl z d p L == [])) :=
  ev_cmp (a:=.v (.list ((tbl z d p L).map rV))) (b:=.t []) (evV rfl) (ev_lst rfl rfl (Nat.zero_le _)) (congrArg (Option.map (!·)) (eq_rows (tbl z d p L) []))
theorem c_while : ∀ (L : List Nat) (p : Int) (cl : List Int) (hd sm row en pa : Option D) (k : Nat),Tri z L -> Dok w d L -> Pok w cl.length p -> cl.length + L.length ≤ 5 -> Lp cl p ->
    ∃ hd' sm' row' en' pa',whlL (fun ρ => evT (EvR rest02 (n + 40)) testC ρ) (fun ρ => evSs (EvR rest02 (n + 40)) bodyW2 ρ) (k + L.length + 1) (stC (tbV z d p L) (some (.o 1 (cl.map zV))) hd sm row en pa) = some (.next,stC (some (.v (.list []))) (some (.o 1 ((cl ++ crn d p L).map zV))) hd' sm' row' en' pa')
  | [],p,cl,hd,sm,row,en,pa,k,_,_,_,_,_ => ⟨hd,sm,row,en,pa,(whl_no c_test).trans (by rw [crn,List.append_nil]; rfl)⟩
  | s :: r,p,cl,hd,sm,row,en,pa,k,hT,D,P,hl,hp => by
    have hl' : cl.length + r.length + 1 ≤ 5 := hl
    have hs := tri_self (d:=d) hT
    have P' := P.next D (List.mem_cons_self (a:=s) (l:=r))
    obtain ⟨h1,s1,r1,e1,p1,e⟩ := c_body (n:=n) (z:=z) (d:=d) (p:=p) (s:=s) (r:=r) (cl:=cl) (hd:=hd) (sm:=sm) (row:=row) (en:=en) (pa:=pa) (show r.length + 1 ≤ 5 by lia) (by lia) (by rw [hs]; exact P'.ne) (fun i j => pe_bits P (by lia) D (show r.length + 1 ≤ 5 by lia)) (fun i _ => cut_of hT D P hl' hp i)
    rw [hs] at e
    obtain ⟨h2,s2,r2,e2,p2,f⟩ := c_while r (p * d s) (cl ++ [p * d s]) h1 s1 r1 e1 p1 k hT.tail D.tail (by rw [List.length_append]; exact P') (by rw [List.length_append]; show cl.length + 1 + r.length ≤ 5; lia) (.inr List.getLast?_concat)
    refine ⟨h2,s2,r2,e2,p2,(whl_go c_test e).trans (f.trans ?_)⟩
    rw [List.append_assoc]; rfl
theorem corners_run {L : List Nat} (hT : Tri z L) (D : Dok w d L) (hl : L.length ≤ 5) : R rest02 (n + 41) 16 [.list ((tbl z d 1 L).map rV)] = some (.list ((crn d 1 L).map zV)) := by
  obtain ⟨h1,s1,r1,e1,p1,e⟩ := c_while (n:=n) (w:=w) L 1 [] none none none none none (10000 - 1 - L.length) hT D Pok.one (by show 0 + L.length ≤ 5; lia) (.inl ⟨rfl,rfl⟩)
  rw [show 10000 - 1 - L.length + L.length + 1 = 10000 by lia,List.nil_append] at e
  exact run_ret (nm:=nm_law_corners) (np:=1) (k:=10) (bx:=tm_law_corners) rfl rfl (go_next (do_own (i:=1) (l:=[]) (ev_lst rfl rfl (Nat.zero_le _)) (show 1 < 11 by decide)) (go_next (do_whl e) (go_ret (do_ret (.o 1 ((crn d 1 L).map zV)) (evV rfl) rfl))))
end
end
section
noncomputable abbrev stL2 (vs : List V) : Loc := vs.map (fun v => some (.v v)) ++ List.replicate (14 - vs.length) none
noncomputable abbrev scV (ns : List Int) : V := .list (ns.map V.int)
noncomputable abbrev E2 (n : Nat) : Ev := EvR rest02 n
noncomputable def wayN (t : Int) : Nat := (t % 3).toNat
noncomputable def lowN (t : Int) : Nat := ((t / 3) % 28).toNat
noncomputable def widN (t : Int) : Nat := 1 + ((t / 84) % 1400).toNat
noncomputable def farN (t : Int) : Nat := 32 + (t % 31).toNat
noncomputable def numsOf (ns : List Int) : List Int := (ns.take 3 ++ [51,-25,87]).take 4
theorem nums_two (ns : List Int) : ∃ a b r,numsOf ns = a :: b :: r /\ (a :: b :: r).length ≤ 4 := by
  have h : (numsOf ns).length = min 4 (min 3 ns.length + 3) := by unfold numsOf; rw [List.length_take,List.length_append,List.length_take]; rfl
  cases e : numsOf ns with
  | nil => rw [e] at h; simp at h; lia
  | cons a l => cases l with
    | nil => rw [e] at h; simp at h; lia
    | cons b r => exact ⟨a,b,r,rfl,by rw [<- e,h]; exact Nat.min_le_left _ _⟩
section
variable {ns : List Int} {n : Nat} {qs : List (Nat × Int)}
theorem N1_ (h : ns.length ≤ 63) : evS (E2 n) s1_law (stL2 [scV ns]) = some (.next,stL2 [scV ns,.int ns.sum]) :=
  do_asg (ev_bi (evXs_cons (a:=.v (scV ns)) (evV rfl) rfl) (bindK (allInts_zV ns) (if_pos (Nat.le_trans h (le_lim (by decide)))))) rfl rfl
theorem N2_ (sc : V) (t : Int) : evS (E2 n) s2_law (stL2 [sc,.int t]) = some (.next,stL2 [sc,.int t,.int (wayN t : Nat)]) :=
  do_asg (d:=.v (.int (wayN t : Nat))) (ev_bin (ev_var (a:=.v (.int t)) rfl) (b:=.v (.int (3 : Nat))) rfl (modZ t 3 (by decide))) rfl rfl
theorem N3_ (sc wv : V) (t : Int) : evS (E2 n) s3_law (stL2 [sc,.int t,wv]) = some (.next,stL2 [sc,.int t,wv,.int (lowN t : Nat)]) :=
  do_asg (d:=.v (.int (lowN t : Nat))) (ev_bin (ev_bin (ev_var (a:=.v (.int t)) rfl) (b:=.v (.int (3 : Nat))) rfl (divZ t 3 (by decide) (by decide))) (b:=.v (.int (28 : Nat))) rfl (modZ (t / (3 : Nat)) 28 (by decide))) rfl rfl
theorem add_rows {a b : List V} (h : a.length + b.length ≤ lim) : binD .Add (.t a) (.t b) = some (.t (a ++ b)) := if_pos (e:=none) h
theorem slcV_take {l : List V} (k : Nat) (hk : k ≤ 1000) (hl : l.length ≤ lim) : slcD (.v (.list l)) (.v .none) (.v (.int k)) (.v .none) = some (.t (l.take k)) :=
  (slc_plain (l:=none) (h:=some (k : Int)) rfl (part_int (by lia))).trans ((if_pos hl).trans (congrArg (fun l => some (D.t l)) (cut_to l k)))
theorem slcT_take {l : List V} (k : Nat) (hk : k ≤ 1000) (hl : l.length ≤ lim) : slcD (.t l) (.v .none) (.v (.int k)) (.v .none) = some (.t (l.take k)) :=
  (slc_plain (l:=none) (h:=some (k : Int)) rfl (part_int (by lia))).trans ((if_pos hl).trans (congrArg (fun l => some (D.t l)) (cut_to l k)))
theorem num_lit {ε : Ev} {ρ : Loc} : evE ε (.lst (.cons (.lit (.int 51)) (.cons (.neg (.lit (.int 25))) (.cons (.lit (.int 87)) .nil)))) ρ = some (.t [.int 51,.int (-25),.int 87]) := ev_lst (evXs_cons rfl (evXs_cons (ev_neg (i:=25) rfl) (evXs_cons rfl rfl))) rfl (show 3 ≤ lim from le_lim (by decide))
theorem nums_len {l : List V} : (l.take 3).length + [V.int 51,V.int (-25),V.int 87].length ≤ lim := Nat.le_trans (Nat.add_le_add_right (List.length_take_le 3 l) 3) (le_lim (by decide))
theorem nums_V (ns : List Int) : (((ns.map zV).take 3) ++ [V.int 51,V.int (-25),V.int 87]).take 4 = (numsOf ns).map zV := by
  rw [numsOf,List.map_take,List.map_append,List.map_take]; rfl
theorem nums_ev {ε : Ev} {ρ : Loc} (hl : ns.length ≤ 63) (h : ρ[0]? = some (some (.v (scV ns)))) : evE ε (.slc (.bin .Add (.slc (.var 0) .no (.lit (.int 3)) .no) (.lst (.cons (.lit (.int 51)) (.cons (.neg (.lit (.int 25))) (.cons (.lit (.int 87)) .nil))))) .no (.lit (.int 4)) .no) ρ = some (.t ((numsOf ns).map zV)) := by
  rw [<- nums_V]
  have a : evE ε (.slc (.var 0) .no (.lit (.int 3)) .no) ρ = some (.t ((ns.map zV).take 3)) := ev_slc (evV h) rfl rfl rfl (slcV_take 3 (by decide) (map_lim (Nat.le_trans hl (le_lim (by decide)))))
  exact ev_slc (ev_bin a num_lit (add_rows nums_len)) rfl rfl rfl (slcT_take 4 (by decide) (Nat.le_trans (Nat.le_of_eq List.length_append) nums_len))
theorem N4_ {t : Int} (hl : ns.length ≤ 63) : ∃ qs,FamOk (widN t) qs /\ evS (E2 (n + 2)) s4_law (stL2 [scV ns,.int t,.int (wayN t : Nat),.int (lowN t : Nat)]) = some (.next,stL2 [scV ns,.int t,.int (wayN t : Nat),.int (lowN t : Nat),.list (qs.map pV)]) := by
  obtain ⟨a,b,r,e,hl4⟩ := nums_two ns
  have hw : widN t ≤ 1400 := by unfold widN; lia
  have hway : wayN t < 3 := by unfold wayN; lia
  obtain ⟨f1,f2⟩ := fam_run (n:=n) hl4 hway hw
  rw [<- e] at f1 f2
  refine ⟨_,f2,do_asg (evE_call (evXs_cons (nums_ev hl rfl) (evXs_cons (evV rfl) (evXs_cons (ev_bin (a:=.v (.int (1 : Nat))) rfl (ev_bin (ev_bin (ev_var (a:=.v (.int t)) rfl) (b:=.v (.int (84 : Nat))) rfl (divZ t 84 (by decide) (by decide))) (b:=.v (.int (1400 : Nat))) rfl (modZ (t / (84 : Nat)) 1400 (by decide))) (addZ _ _)) rfl))) rfl f1) rfl rfl⟩
theorem N5_ {w way low : Nat} (F : FamOk w qs) (h1 : 1 ≤ w) (h2 : w ≤ 1400) (hway : way < 3) (hlow : low < 28) (sc tv : V) : evS (E2 (n + 41)) s5_law (stL2 [sc,tv,.int way,.int low,.list (qs.map pV)]) = some (.next,stL2 [sc,tv,.int way,.int low,.list (qs.map pV),rV (crn (sndZ qs) 1 (List.range qs.length))]) := by
  have tr := table_run (n:=n + 37) F.len F.lt hway hlow
  rw [table_eq F.lt hway] at tr
  exact do_asg (evE_call (evXs_cons (evE_call (evXs_cons (evV rfl) (evXs_cons (evV rfl) (evXs_cons (evV rfl) rfl))) rfl tr) rfl) rfl (corners_run (n:=n) (w:=w) (tri_fam F hway) ⟨h1,h2,fun k hk => (snd_bd F (List.mem_range.mp hk)).1,snd_le F⟩ (Nat.le_trans (Nat.le_of_eq List.length_range) F.len))) rfl rfl
theorem N6_ {sc tv wv lv cv : V} (hl : qs.length ≤ 5) : evS (E2 n) s6_law (stL2 [sc,tv,wv,lv,.list (qs.map pV),cv]) = some (.next,stL2 [sc,tv,wv,lv,.list (qs.map pV),cv,rV (qs.map (·.2))]) :=
  do_asg ((comp_M (v:=pV) (st:=fun q => (stL2 [sc,tv,wv,lv,.list (qs.map pV),cv]).take 12 ++ [di q.1,some (.v (.int q.2))]) (f:=fun q => .v (zV q.2)) (g:=fun q => zV q.2) (evI_var rfl rfl (map_lim (five hl))) (fun _ _ => rfl) (fun _ _ => ⟨evV rfl,rfl⟩) (five hl)).trans (congrArg (fun l => some (D.t l)) (List.map_map (f:=fun q : Nat × Int => q.2) (g:=zV)).symm)) rfl rfl
end
end
section
section
variable {d : Nat -> Int} {w c : Nat} {p : Int}
theorem crn_len : ∀ (L : List Nat) (p : Int),(crn d p L).length = L.length
  | [],_ => rfl
  | s :: r,p => congrArg (· + 1) (crn_len r (p * d s))
theorem crn_next : ∀ (L : List Nat) (p : Int) (k : Nat),k + 1 < L.length -> (crn d p L).getD (k + 1) 0 = (crn d p L).getD k 0 * d (L.getD (k + 1) 0)
  | [],_,_,h => absurd h (Nat.not_lt_zero _)
  | [s],_,k,h => absurd h (by simp)
  | s :: t :: r,p,0,_ => rfl
  | s :: t :: r,p,k + 1,h => crn_next (t :: r) (p * d s) k (Nat.lt_of_succ_lt_succ h)
theorem crn_ok {L0 : List Nat} (D : Dok w d L0) : ∀ (L : List Nat) (p : Int) (c k : Nat),(∀ s ∈ L,s ∈ L0) -> Pok w c p -> k < L.length -> Pok w (c + k + 1) ((crn d p L).getD k 0)
  | [],_,_,_,_,_,h => absurd h (Nat.not_lt_zero _)
  | s :: r,p,c,0,hs,P,_ => P.next D (hs s (.head _))
  | s :: r,p,c,k + 1,hs,P,h => by
    have := crn_ok D r (p * d s) (c + 1) k (fun x hx => hs x (.tail _ hx)) (P.next D (hs s (.head _))) (Nat.lt_of_succ_lt_succ h)
    rw [show c + (k + 1) + 1 = c + 1 + k + 1 by lia]
    exact this
end
theorem add_bits {x y : Int} {k : Nat} (hx : bits x ≤ k) (hy : bits y ≤ k) : bits (x + y) ≤ k + 1 := by
  refine intBits_le_iff.mpr ?_
  rw [Nat.pow_succ,Nat.mul_two]
  exact Nat.lt_of_le_of_lt (Int.natAbs_add_le x y) (Nat.add_lt_add (intBits_le_iff.mp hx) (intBits_le_iff.mp hy))
theorem half_bits (x : Int) : bits (x / 2) ≤ bits x := intBits_le_iff.mpr (Nat.lt_of_le_of_lt (by lia) (intBits_le_iff.mp (Nat.le_refl (bits x))))
theorem half_told {c x : Int} (h : 2 ≤ c.natAbs) : (c * x + c / 2).fdiv c = x /\ (c * x + c / 2).fmod c = c / 2 := by
  rcases Int.lt_or_le 0 c with h0 | h0
  · exact div_told rfl (by lia) (by lia)
  · exact div_told_neg rfl (by lia) (by lia)
noncomputable def pZ (p : Int × Int) : V := .tup [.int p.1,.int p.2]
theorem eqv_pZ (a b : Int × Int) : (pZ a).py.eqv (pZ b).py = (a == b) := by
  show PyData.eqv (.tuple (V.pys [.int a.1,.int a.2])) (.tuple (V.pys [.int b.1,.int b.2])) = _
  rw [PyData.eqv]
  show (a.1 == b.1 && (a.2 == b.2 && true)) = _
  rw [Bool.and_true]; rfl
theorem eq_pairs (l m : List (Int × Int)) : eqD (.list (l.map pZ)) (.list (m.map pZ)) = some (l == m) := eq_lists (n:=1) l m eqv_pZ (fun a => ok_tup (List.forall_mem_cons.mpr ⟨ok_int _,List.forall_mem_cons.mpr ⟨ok_int _,List.forall_mem_nil _⟩⟩)) (by decide)
section
variable {n w : Nat} {cs sh : List Int} {sc tv wv lv fv ov rv hv : V}
theorem at_z {ε : Ev} {ρ : Loc} {i k : Nat} {y : X} {l : List Int} (h : ρ[i]? = some (some (.v (rV l)))) (hy : evE ε y ρ = some (.v (.int k))) (hk : k < l.length) (hl : l.length ≤ 5) : evE ε (.sub (.var i) y) ρ = some (.v (.int (l.getD k 0))) :=
  ev_sub (evV h) hy (sub_at (k:=k) rfl rfl (map_lim (five hl)) (by rw [List.getElem?_map,List.getD,List.getElem?_eq_getElem hk]; rfl))
noncomputable abbrev stK (cs sh : List Int) (sc tv wv lv fv ov rv hv : V) (told : Option D) (k : Option D) : Loc := [some (.v sc),some (.v tv),some (.v wv),some (.v lv),some (.v fv),some (.v (rV cs)),some (.v (rV sh)),some (.v ov),some (.v rv),some (.v hv),told,k,none,none]
theorem prev_ev {ε : Ev} {told : Option D} (k : Nat) : evE ε (.bin .Sub (.var 11) (.lit (.int 1))) (stK cs sh sc tv wv lv fv ov rv hv told (di ((k + 1 : Nat) : Int))) = some (.v (.int k)) :=
  (ev_bin (a:=.v (.int ((k + 1 : Nat) : Int))) (b:=.v (.int 1)) (evV rfl) rfl (subZ _ _)).trans (congrArg (fun i => some (D.v (.int i))) (by lia))
theorem half_ev {ε : Ev} {told : Option D} {k : Nat} (hk : k < cs.length) (hl : cs.length ≤ 5) : evE ε (.bin .FloorDiv (.sub (.var 5) (.bin .Sub (.var 11) (.lit (.int 1)))) (.lit (.int 2))) (stK cs sh sc tv wv lv fv ov rv hv told (di ((k + 1 : Nat) : Int))) = some (.v (.int (cs.getD k 0 / 2))) :=
  ev_bin (at_z rfl (prev_ev k) hk hl) (b:=.v (.int (2 : Nat))) rfl (divZ _ 2 (by decide) (by decide))
theorem len_cs {ε : Ev} {told x : Option D} {i : Nat} {l : List Int} (hl : l.length ≤ 5) (h : (stK cs sh sc tv wv lv fv ov rv hv told x)[i]? = some (some (.v (rV l)))) (h0 : 0 < l.length) : evE ε (.bi .len (.cons (.var i) .nil)) (stK cs sh sc tv wv lv fv ov rv hv told x) = some (.v (.int ((l.length - 1 + 1 : Nat) : Int))) :=
  (ev_lenI (l:=l.map zV) (evV h) rfl rfl (map_lim (five hl))).trans (congrArg (fun n : Nat => some (D.v (.int n))) (by rw [List.length_map]; lia))
theorem N12_ (hl : cs.length ≤ 5) (h0 : 0 < cs.length) (x : Nat -> Int) (hx : ∀ k,k < cs.length - 1 -> cs.getD (k + 1) 0 = cs.getD k 0 * x k /\ 2 ≤ (cs.getD k 0).natAbs /\ bits (cs.getD k 0) < 9000 /\ bits (cs.getD k 0) + bits (x k) + 1 ≤ 100 * bits (cs.getD k 0)) :
    evS (E2 (n + 40)) s12_law (stK cs sh sc tv wv lv fv ov rv hv none none) = some (.next,stK cs sh sc tv wv lv fv ov rv hv (some (.v (.list (((List.range (cs.length - 1)).map fun k => (x k,cs.getD k 0 / 2)).map pZ)))) none) := by
  refine do_asg ((comp_M (v:=fun k => iV (k + 1)) (as:=List.range (cs.length - 1)) (st:=fun k => stK cs sh sc tv wv lv fv ov rv hv none (di ((k + 1 : Nat) : Int))) (f:=fun k => .v (pZ (x k,cs.getD k 0 / 2))) (g:=fun k => pZ (x k,cs.getD k 0 / 2)) (range1_ev (len_cs hl rfl h0) (by lia)) (fun _ _ => rfl) (fun k hk => ⟨?_,rfl⟩) (Nat.le_trans (Nat.le_of_eq List.length_range) (Nat.le_trans (Nat.sub_le _ _) (five hl)))).trans (congrArg (fun l => some (D.t l)) (List.map_map (f:=fun k => (x k,cs.getD k 0 / 2)) (g:=pZ)).symm)) rfl rfl
  have hk := List.mem_range.mp hk
  obtain ⟨e1,e2,e3,e4⟩ := hx k hk
  have hd := divmod_eq (rest:=rest02) (j:=n) (a:=cs.getD (k + 1) 0 + cs.getD k 0 / 2) (b:=cs.getD k 0) (by intro q; rw [q] at e2; exact absurd e2 (by decide)) e3 (by
    rw [e1]
    exact Nat.le_trans (add_bits (mul_bits _ _) (Nat.le_trans (half_bits _) (Nat.le_add_right _ _))) e4)
  have ht := half_told (x:=x k) e2
  rw [e1] at hd
  rw [ht.1,ht.2] at hd
  exact evE_call (evXs_cons (ev_bin (at_z rfl (evV rfl) (by lia) hl) (half_ev (by lia) hl) (addZ _ _)) (evXs_cons (at_z rfl (prev_ev k) (by lia) hl) rfl)) rfl (by rw [e1]; exact hd)
theorem N13_ {told : List (Int × Int)} (hl : cs.length ≤ 5) (hs : sh.length = cs.length) (h0 : 0 < cs.length) (he : told = (List.range (cs.length - 1)).map fun k => (sh.getD (k + 1) 0,cs.getD k 0 / 2)) :
    evS (E2 n) s13_law (stK cs sh sc tv wv lv fv ov rv hv (some (.v (.list (told.map pZ)))) none) = some (.ret (.bool true),stK cs sh sc tv wv lv fv ov rv hv (some (.v (.list (told.map pZ)))) none) := by
  have cm := comp_M (ε:=E2 n) (ρ:=stK cs sh sc tv wv lv fv ov rv hv (some (.v (.list (told.map pZ)))) none) (t:=.n 11) (it:=.bi .range (.cons (.lit (.int 1)) (.cons (.bi .len (.cons (.var 6) .nil)) .nil))) (x:=.tup (.cons (.sub (.var 6) (.var 11)) (.cons (.bin .FloorDiv (.sub (.var 5) (.bin .Sub (.var 11) (.lit (.int 1)))) (.lit (.int 2))) .nil))) (v:=fun k => iV (k + 1)) (as:=List.range (cs.length - 1)) (st:=fun k => stK cs sh sc tv wv lv fv ov rv hv (some (.v (.list (told.map pZ)))) (di ((k + 1 : Nat) : Int))) (f:=fun k => .v (pZ (sh.getD (k + 1) 0,cs.getD k 0 / 2))) (g:=fun k => pZ (sh.getD (k + 1) 0,cs.getD k 0 / 2))
    (range1_ev ((len_cs (l:=sh) (by rw [hs]; exact hl) rfl (by rw [hs]; exact h0)).trans (by rw [hs])) (by lia)) (fun _ _ => rfl) (fun k hk => ⟨ev_tup (vs:=[_,_]) (evXs_cons (at_z rfl (evV rfl) (by have := List.mem_range.mp hk; lia) (by rw [hs]; exact hl)) (evXs_cons (half_ev (by have := List.mem_range.mp hk; lia) hl) rfl)) rfl (show 2 ≤ lim from le_lim (by decide)),rfl⟩) (Nat.le_trans (Nat.le_of_eq List.length_range) (Nat.le_trans (Nat.sub_le _ _) (five hl)))
  have c2 := cm.trans (congrArg (fun l => some (D.t l)) (List.map_map (f:=fun k => (sh.getD (k + 1) 0,cs.getD k 0 / 2)) (g:=pZ)).symm)
  rw [<- he] at c2
  exact do_ret (.v (.bool true)) (evB_cmp (evV rfl) c2 ((eq_pairs told told).trans (congrArg some BEq.rfl))) rfl
end
end
section
noncomputable def wholeW (one low far : Nat) (neg : Bool) : List (List Nat) := lowW one low ++ [if neg then 45 :: wordL far else wordL far]
theorem whole_good {one low far : Nat} {neg : Bool} (hlow : low < 28) (h63 : far < 63) : ∀ w ∈ wholeW one low far neg,Good w /\ w ≠ [] /\ w.length ≤ 31 := by
  intro w hw
  have hf := word_good (p:=far) (by lia)
  rcases List.mem_append.mp hw with q | q
  · obtain ⟨k,hk,rfl⟩ := List.mem_map.mp q
    have := bits5_lt hk
    have := word_good (p:=low + k) (by lia)
    exact ⟨this.1,this.2.1,by lia⟩
  · rw [List.mem_singleton.mp q]
    cases neg
    · exact ⟨hf.1,hf.2.1,by simp; lia⟩
    · refine ⟨?_,by simp,by simp; lia⟩
      obtain ⟨g1,g2,g3⟩ := hf.1
      simp only [if_true]
      exact ⟨by simp [g1],by simp [g2],by simp [g3]⟩
section
variable {ns : List Int} {n : Nat} {cs sh : List Int} {sc tv wv lv fv ov rv hv : V}
theorem take_V (cs : List Int) : (cs.map zV).take 1 = (cs.take 1).map zV := List.map_take.symm
theorem N7_ {x : Int} (hl : cs.length ≤ 5) (hs : sh.length ≤ 5) (h1 : cs.take 1 = sh.take 1) (hx : cs.getLast? = some x) : evS (E2 n) sif_law (stL2 [sc,tv,wv,lv,fv,rV cs,rV sh]) = some (.next,stL2 [sc,tv,wv,lv,fv,rV cs,rV sh]) := by
  have a : evE (E2 n) (.slc (.var 5) .no (.lit (.int 1)) .no) (stL2 [sc,tv,wv,lv,fv,rV cs,rV sh]) = some (.t ((cs.map zV).take 1)) := ev_slc (evV rfl) rfl rfl rfl (slcV_take 1 (by decide) (map_lim (five hl)))
  have b : evE (E2 n) (.slc (.var 6) .no (.lit (.int 1)) .no) (stL2 [sc,tv,wv,lv,fv,rV cs,rV sh]) = some (.t ((sh.map zV).take 1)) := ev_slc (evV rfl) rfl rfl rfl (slcV_take 1 (by decide) (map_lim (five hs)))
  have hc : cmpD .NotEq (.t ((cs.map zV).take 1)) (.t ((sh.map zV).take 1)) = some false := by
    rw [take_V,take_V,h1]
    exact congrArg (Option.map (!·)) ((eq_zs _ _).trans (congrArg some BEq.rfl))
  have l : evE (E2 n) (.sub (.var 5) (.neg (.lit (.int 1)))) (stL2 [sc,tv,wv,lv,fv,rV cs,rV sh]) = some (.v (.int x)) :=
    ev_sub (evV rfl) rfl (sub_last (l:=cs.map zV) rfl rfl (map_lim (five hl)) (List.getLast?_map.trans (congrArg (Option.map zV) hx)))
  exact if_no (or_two (p:=false) (q:=false) (ev_cmp a b hc) (ev_cmp (op:=.Lt) l l (congrArg some (decide_eq_false (Int.lt_irrefl x))))) go_nil
theorem N8_ {t w l f c s : V} (h : ns.length ≤ 63) : evS (E2 n) s7_law (stL2 [scV ns,t,w,l,f,c,s]) = some (.next,stL2 [scV ns,t,w,l,f,c,s,.int ((ns.length % 2 : Nat) : Int)]) :=
  do_asg (d:=.v (.int ((ns.length % 2 : Nat) : Int))) (ev_bin ((ev_lenI (l:=ns.map V.int) (evV rfl) rfl rfl (map_lim (Nat.le_trans h (le_lim (by decide))))).trans (congrArg (fun n : Nat => some (D.v (.int n))) (List.length_map _))) (b:=.v (.int (2 : Nat))) rfl (mod_nat _ 2 (by decide))) rfl rfl
theorem N9_ {w l f c s o : V} (t : Int) : evS (E2 n) s8_law (stL2 [sc,.int t,w,l,f,c,s,o]) = some (.next,stL2 [sc,.int t,w,l,f,c,s,o,.int (farN t : Nat)]) :=
  do_asg (d:=.v (.int (farN t : Nat))) (ev_bin (a:=.v (.int (32 : Nat))) rfl (ev_bin (ev_var (a:=.v (.int t)) rfl) (b:=.v (.int (31 : Nat))) rfl (modZ t 31 (by decide))) (addZ _ _)) rfl rfl
theorem dash_s : ("-" : Str) = mk [45] := by rw [Str.ofString_eq_toList]; rfl
theorem pow_far_bits {far : Nat} (h : far < 63) : bits ((2 : Int) ^ far) ≤ 64 := by
  refine intBits_le_iff.mpr ?_
  rw [pow_cast]
  exact Nat.pow_lt_pow_right (by decide) (by lia)
theorem sign_ev {ρ : Loc} {o far : Nat} (ho : o < 2) (h63 : far < 63) (h7 : ρ[7]? = some (di o)) (h8 : ρ[8]? = some (di far)) : evE (E2 n) (.bin .Mult (.bin .Sub (.lit (.int 1)) (.bin .Mult (.lit (.int 2)) (.var 7))) (.bin .Pow (.lit (.int 2)) (.var 8))) ρ = some (.v (.int (if (o == 1) = true then -(2 ^ far) else 2 ^ far))) := by
  have b := pow_far_bits h63
  have e2 : evE (E2 n) (.bin .Pow (.lit (.int 2)) (.var 8)) ρ = some (.v (.int (2 ^ far))) := ev_bin (a:=.v (.int 2)) rfl (evV h8) (powZ far (by lia))
  have ho' : o = 0 ∨ o = 1 := by lia
  rcases ho' with rfl | rfl
  · exact ev_bin (a:=.v (.int 1)) (ev_bin (a:=.v (.int 1)) rfl (ev_bin (a:=.v (.int 2)) rfl (evV h7) (mulZ (by decide))) (subZ _ _)) e2 ((mulZ (Nat.le_trans (Nat.add_le_add (show bits 1 ≤ 1 by decide) b) (by decide))).trans (by rw [Int.one_mul]; rfl))
  · exact ev_bin (a:=.v (.int (-1))) (ev_bin (a:=.v (.int 1)) rfl (ev_bin (a:=.v (.int 2)) rfl (evV h7) (mulZ (by decide))) (subZ _ _)) e2 ((mulZ (Nat.le_trans (Nat.add_le_add (show bits (-1) ≤ 1 by decide) b) (by decide))).trans (by rw [Int.neg_one_mul]; rfl))
theorem name_ev {ρ : Loc} {o far : Nat} (ho : o < 2) (h63 : far < 63) (h7 : ρ[7]? = some (di o)) (h8 : ρ[8]? = some (di far)) : evE (E2 (n + 2)) (.lst (.cons (.bin .Add (.bin .Mult (.lit (.str ("-" : Str))) (.var 7)) (.call 8 (.cons (.var 8) .nil))) .nil)) ρ = some (.t [.str (mk (if (o == 1) = true then 45 :: wordL far else wordL far))]) := by
  have hwl := (word_good (p:=far) (by lia)).2.2.1
  have wl : evE (E2 (n + 2)) (.call 8 (.cons (.var 8) .nil)) ρ = some (.v (.str (mk (wordL far)))) := by
    have := word_run (rest:=rest02) (n:=n + 1) (p:=far) (by lia)
    rw [word_mk] at this
    exact evE_call (evXs_cons (evV h8) rfl) rfl this
  have ho' : o = 0 ∨ o = 1 := by lia
  rcases ho' with rfl | rfl
  · exact ev_lst (evXs_cons (ev_bin (ev_bin (a:=.v (.str ("-" : Str))) rfl (evV h7) (c:=.v (.str (mk []))) (by rw [dash_s]; rfl)) wl (add_str (a:=[]) (by show 0 + _ ≤ lim; exact Nat.le_trans (by lia) (le_lim (show 100 ≤ 1000000 by decide))))) rfl) rfl (show (1 : Nat) ≤ lim from le_lim (by decide))
  · exact ev_lst (evXs_cons (ev_bin (ev_bin (a:=.v (.str ("-" : Str))) rfl (evV h7) (c:=.v (.str (mk [45]))) (by rw [dash_s]; rfl)) wl (add_str (a:=[45]) (by show 1 + _ ≤ lim; exact Nat.le_trans (by lia) (le_lim (show 100 ≤ 1000000 by decide))))) rfl) rfl (show (1 : Nat) ≤ lim from le_lim (by decide))
theorem N10_ {qs : List (Nat × Int)} {q : Nat × Int} {o far low : Nat} {t w c s : V} (hl : qs.length ≤ 5) (hq : qs.getLast? = some q) (h1 : q.1 < 32) (hlow : low < 28) (ho : o < 2) (h32 : 32 ≤ far) (h63 : far < 63) :
    evS (E2 (n + 2)) s9_law (stL2 [sc,t,w,.int low,.list (qs.map pV),c,s,.int o,.int far]) = some (.next,stL2 [sc,t,w,.int low,.list (qs.map pV),c,s,.int o,.int far,.str (mk (flat (wholeW q.1 low far (o == 1))))]) :=
  do_asg (evE_call (evXs_cons (ev_sub (ev_sub (evV rfl) rfl (sub_last (l:=qs.map pV) (v:=pV q) rfl rfl (map_lim (five hl)) (List.getLast?_map.trans (congrArg (Option.map pV) hq)))) rfl (sub_at (k:=0) rfl rfl (show 2 ≤ lim from le_lim (by decide)) rfl)) (evXs_cons (evV rfl) (evXs_cons (sign_ev ho h63 rfl rfl) (evXs_cons (name_ev ho h63 rfl rfl) rfl)))) rfl (text_far (rest:=rest02) (n:=n) h1 hlow h32 h63 (o == 1))) rfl rfl
theorem N11_ {t w l f c s o r : V} {low one far : Nat} {neg : Bool} (hlow : low < 28) (h63 : far < 63) :
    evS (E2 (n + 2)) s11_law (stL2 [sc,t,w,l,f,c,s,o,r,.str (mk (flat (wholeW one low far neg)))]) = some (.next,stL2 [sc,t,w,l,f,c,s,o,r,.str (mk (flat (wholeW one low far neg)))]) := by
  have hne : wholeW one low far neg ≠ [] := by rw [wholeW]; simp
  have hg := whole_good (one:=one) (neg:=neg) hlow h63
  have c1 : evT (E2 (n + 2)) (.cmp .Eq (.var 9) (.lit (.str ("" : Str)))) (stL2 [sc,t,w,l,f,c,s,o,r,.str (mk (flat (wholeW one low far neg)))]) = some false := ev_cmp (evV rfl) rfl (str_empty _ (flat_ne hne))
  have hlen : (flat (wholeW one low far neg)).length ≤ 1000 := by
    have := flat_len (ws:=wholeW one low far neg) fun w hw => Nat.le_trans (hg w hw).2.2 (by decide)
    have h2 : (wholeW one low far neg).length ≤ 6 := by
      rw [wholeW,List.length_append,lowW,List.length_map]
      have := bits5_len one
      simp; lia
    lia
  obtain ⟨b,d,H⟩ := alone_flat hne fun w hw => ⟨(hg w hw).1,(hg w hw).2.1⟩
  exact if_no (or_two (p:=false) (q:=false) c1 (tv_not (tv_call (v:=.bool true) (t:=true) (evXs_cons (evV (d:=.v (.str (mk (flat (wholeW one low far neg))))) rfl) rfl) rfl (alone_run (rest:=rest02) (n:=n) H hlen) rfl))) go_nil
end
end
section
section
variable {qs : List (Nat × Int)} {w : Nat}
noncomputable abbrev csQ (qs : List (Nat × Int)) : List Int := crn (sndZ qs) 1 (List.range qs.length)
noncomputable abbrev shQ (qs : List (Nat × Int)) : List Int := qs.map (·.2)
theorem cs_len (qs : List (Nat × Int)) : (csQ qs).length = qs.length := (crn_len _ _).trans List.length_range
theorem sh_getD (qs : List (Nat × Int)) (k : Nat) : (shQ qs).getD k 0 = sndZ qs k := by
  show ((qs.map (·.2))[k]?).getD 0 = ((qs[k]?).getD (0,0)).2
  rw [List.getElem?_map]
  cases qs[k]? <;> rfl
theorem first_two : ∀ qs : List (Nat × Int),(csQ qs).take 1 = (shQ qs).take 1
  | [] => rfl
  | q :: r => by
    show (crn _ 1 (List.range (r.length + 1))).take 1 = [q.2]
    rw [List.range_succ_eq_map]
    show [1 * q.2] = [q.2]
    rw [Int.one_mul]
theorem fam_dok (F : FamOk w qs) (h1 : 1 ≤ w) (h2 : w ≤ 1400) : Dok w (sndZ qs) (List.range qs.length) := ⟨h1,h2,fun k hk => (snd_bd F (List.mem_range.mp hk)).1,snd_le F⟩
theorem cs_fact (F : FamOk w qs) (h1 : 1 ≤ w) (h2 : w ≤ 1400) {k : Nat} (hk : k < (csQ qs).length - 1) :
    (csQ qs).getD (k + 1) 0 = (csQ qs).getD k 0 * sndZ qs (k + 1) /\ 2 ≤ ((csQ qs).getD k 0).natAbs /\ bits ((csQ qs).getD k 0) < 9000 /\ bits ((csQ qs).getD k 0) + bits (sndZ qs (k + 1)) + 1 ≤ 100 * bits ((csQ qs).getD k 0) := by
  rw [cs_len] at hk
  have hk1 : k + 1 < qs.length := by lia
  have hl := F.len
  have D := fam_dok F h1 h2
  have P : Pok w (0 + k + 1) ((csQ qs).getD k 0) := crn_ok D (List.range qs.length) 1 0 k (fun s hs => hs) Pok.one (by rw [List.length_range]; lia)
  have e := crn_next (d:=sndZ qs) (List.range qs.length) 1 k (by rw [List.length_range]; exact hk1)
  rw [show (List.range qs.length).getD (k + 1) 0 = k + 1 by rw [List.getD,List.getElem?_range hk1]; rfl] at e
  have b1 := P.bits
  have b2 := P.bits_lo
  have b3 : bits (sndZ qs (k + 1)) ≤ w + 1 + 1 := bits_up (snd_le F (k + 1))
  have m1 : (0 + k + 1) * (w + 1) ≤ 5 * 1401 := Nat.mul_le_mul (by lia) (Nat.succ_le_succ h2)
  have m2 : w ≤ (0 + k + 1) * w := Nat.le_trans (Nat.le_of_eq (Nat.one_mul w).symm) (Nat.mul_le_mul_right w (by lia))
  generalize (0 + k + 1) * (w + 1) = u at b1 m1
  have lo := P.lo
  have h2' : 2 ≤ 2 ^ ((0 + k + 1) * w) := Nat.le_trans (by decide : 2 ≤ 2 ^ 1) (Nat.pow_le_pow_right (by decide) (Nat.le_trans h1 m2))
  generalize (0 + k + 1) * w = v at b2 m2
  exact ⟨e,Nat.le_trans h2' lo,by lia,by lia⟩
end
theorem law_ev2 {ns : List Int} (h : ns.length ≤ 63) {N : Nat} (hN : 100 ≤ N) : ∃ ρ',evSs (E2 N) tm_law2 (stL2 [scV ns]) = some (.ret (.bool true),ρ') := by
  obtain ⟨M,rfl⟩ : ∃ M,N = M + 100 := ⟨N - 100,(Nat.sub_add_cancel hN).symm⟩
  have hw1 : 1 ≤ widN ns.sum := Nat.le_add_right 1 _
  have hw2 : widN ns.sum ≤ 1400 := by unfold widN; lia
  have hway : wayN ns.sum < 3 := by unfold wayN; lia
  have hlow : lowN ns.sum < 28 := by unfold lowN; lia
  have hfar : farN ns.sum < 63 := by unfold farN; lia
  obtain ⟨qs,F,e4⟩ := N4_ (n:=M + 98) (t:=ns.sum) h
  have hl := F.len
  have h0 : 0 < qs.length := List.length_pos_iff.mpr F.ne
  have hc : (csQ qs).length ≤ 5 := by rw [cs_len]; exact hl
  have hc0 : 0 < (csQ qs).length := by rw [cs_len]; exact h0
  have hs : (shQ qs).length = (csQ qs).length := by rw [cs_len,List.length_map]
  obtain ⟨q,hq⟩ : ∃ q,qs.getLast? = some q := ⟨_,List.getLast?_eq_some_getLast F.ne⟩
  obtain ⟨x,hx⟩ : ∃ x,(csQ qs).getLast? = some x := ⟨_,List.getLast?_eq_some_getLast (fun q => by rw [q] at hc0; exact absurd hc0 (by decide))⟩
  have hq32 := F.lt q (List.mem_of_getLast? hq)
  exact ⟨_,go_next (N1_ h) (go_next (N2_ _ _) (go_next (N3_ _ _ _) (go_next e4 (go_next (N5_ (n:=M + 59) F hw1 hw2 hway hlow _ _) (go_next (N6_ hl) (go_next (N7_ hc (hs ▸ hc) (first_two qs) hx) (go_next (N8_ h) (go_next (N9_ _)
    (go_next (N10_ (n:=M + 98) hl hq hq32 hlow (Nat.mod_lt _ (by decide)) (Nat.le_add_right 32 _) hfar) (go_next (N11_ (n:=M + 98) hlow hfar)
    (go_next (N12_ (n:=M + 60) (cs:=csQ qs) (sh:=shQ qs) hc hc0 (fun k => sndZ qs (k + 1)) fun k hk => cs_fact F hw1 hw2 hk)
    (go_ret (N13_ (cs:=csQ qs) (sh:=shQ qs) hc hs hc0 (List.map_congr_left fun k _ => by rw [sh_getD]))))))))))))))⟩
end
section
set_option genInjectivity false
set_option genSizeOfSpec false
structure FrA (c : Cx) (σ : St) (env : Env) : Prop where
  kind : env.scope.kind = .function
  fr : env.frame = some env.locals
  ph : σ.Φ env.locals = none
  t : env.locals ∉ c.T
  ns : ∃ m,σ.s.heap.Ns env.locals m
noncomputable abbrev locsOf (es : List Env) : List Addr := es.map fun (e : Env) => e.locals
noncomputable abbrev baseOf (σ : St) (es : List Env) : Heap := hideAll σ.s.heap (locsOf es)
section
variable {c : Cx} {F : Fx} {ρ : Loc} {O : Ow} {σ : St} {es : List Env}
theorem Ok.fra (a : Ok F ρ O σ) (hf : F.env.frame = some F.env.locals) : FrA F.c σ F.env :=
  ⟨a.fr.kind,hf,(a.fr.off _ (.inl rfl)).1,(a.fr.off _ (.inl rfl)).2.2,let ⟨m,h,_⟩ := a.fr.ns; ⟨m,h⟩⟩
theorem fun_frames {h' : Heap} (keep : ∀ b o,σ.s.heap.get? b = some o -> h'.get? b = some o) {as : List Addr} : ∀ {es : List Env},(∀ e ∈ es,FrA c σ e) -> (∀ e ∈ es,e.locals ∈ as) -> h'.FunFrames (hideAll σ.s.heap as) es
  | [],_,_ => trivial
  | e :: r,h,k => let ⟨m,hn⟩ := (h e (.head _)).ns
    .cons (by rw [(h e (.head _)).kind]; decide) (h e (.head _)).fr (hn.keeps keep) (hideAll_none _ (k e (.head _))) (fun_frames keep (fun e q => h e (.tail _ q)) fun e q => k e (.tail _ q))
theorem base_get {b : Addr} {o : Obj} (e : σ.s.heap.get? b = some o) (h : ∀ e ∈ es,e.locals ≠ b) : (baseOf σ es).get? b = some o :=
  hideAll_get _ e fun q => let ⟨e,h1,h2⟩ := List.mem_map.mp q; h e h1 h2
theorem fra_ne (k : OkS c σ.Φ σ.s) (h : ∀ e ∈ es,FrA c σ e) {b : Addr} {o : Obj} (e : c.b0.get? b = some o) : ∀ e ∈ es,e.locals ≠ b := fun z hz q => by
  have h1 := (h z hz).ph
  rw [q,k.base _ _ e] at h1
  cases h1
theorem Wd.frames (k : OkS c σ.Φ σ.s) (h : ∀ e ∈ es,FrA c σ e) {h' : Heap} {tk : Tok} (st : (baseOf σ es).StaysIn h') :
    Wd c (fun a => ∃ e ∈ es,e.locals = a) σ.Φ σ.s σ.Φ { σ.s with heap := h',toks := tk } :=
  Wd.write k (fun b o e q => st b o (base_get e fun z hz w => q ⟨z,hz,w⟩)) fun b ⟨z,hz,w⟩ => w ▸ ⟨(h z hz).ph,(h z hz).t⟩
theorem leave_exc {M : Model} {A : Around} {env : Env} {out : List Env} (hA : A.frames = some out) (h : ∀ e ∈ env :: out,FrA c σ e) {h3 : Heap} {e : Addr} {X : String} (hx : Heap.NewExc σ.s.heap h3 e X) {E : Value -> Shared -> Prop} {Q : Unit -> Shared -> Prop} {s3 : Shared} (hs : s3.heap = h3)
    (k : ∀ h4 a0,Heap.FlyingW (baseOf σ (env :: out)) out e (.type X) a0 h4 -> σ.s.heap.UpToSlots h4 -> Q () { s3 with heap := h4 }) : wpAny M (A.deeper env) (leaving env (.ref e)) Q E s3 := by
  subst hs
  obtain ⟨ob,tp,he,hcls,hd⟩ := hx.there
  have st : (baseOf σ (env :: out)).StaysIn s3.heap := fun b o q => hx.keeps b o (of_hideAll _ q)
  have hen : (baseOf σ (env :: out)).get? e = none := by
    cases q : (baseOf σ (env :: out)).get? e with
    | none => rfl
    | some o => have := of_hideAll _ q; rw [hx.new] at this; cases this
  refine wpAny_leaving_firstW (a0:=tp) (base:=baseOf σ (env :: out)) (Around.frames_deeper hA) (fun_frames hx.keeps h fun e q => List.mem_map.mpr ⟨e,q,rfl⟩) (h env (.head _)).fr he st hen hd rfl rfl fun h' hL => ?_
  obtain ⟨k1,⟨_,_,k2⟩,k3,k4⟩ := hL
  exact k h' tp ⟨k1,hen,k2,by rw [<- hcls]; exact k3⟩ ((Heap.UpToSlots.of_keeps hx.keeps).trans k4)
theorem caught_exc {F1 : Fx} {ρ1 : Loc} {O1 : Ow} (a1 : Ok F1 ρ1 O1 σ) {out fs : List Env} (hA : F1.A.frames = some (F1.env :: out)) (hf : F1.env.frame = some F1.env.locals) (hfs : ∀ e ∈ fs,FrA F1.c σ e) {e : Addr} {a0 : Value} {s4 : Shared} (R : Heap.FlyingW (baseOf σ fs) (F1.env :: out) e (.type "ZeroDivisionError") a0 s4.heap) (U : σ.s.heap.UpToSlots s4.heap)
    (hg : IsGlob F1 "ZeroDivisionError") (z1 : F1.c.mg "ZeroDivisionError" = none) (z2 : F1.c.mb "ZeroDivisionError" = some (.type "ZeroDivisionError")) {b₀ : Stmt} {suite : List Stmt} {np pos : Pos} {rest : List ExceptHandler} {E : Value -> Shared -> Prop} {Q : Flow -> Shared -> Prop}
    (k : ∀ h6,(baseOf σ fs).StaysIn h6 -> σ.s.heap.UpToSlots h6 -> wpAny F1.M (F1.A.mark (some (.ref e))) (execs (b₀ :: suite) F1.env) Q NoE { s4 with heap := h6 }) :
    wpAny F1.M F1.A (noteFrame (.ref e) F1.env) (fun _ s₂ => wpAny F1.M F1.A (setFlight (.ref e) none) (fun _ s₃ => wpAny F1.M F1.A (handleBy (.ref e) F1.env (.ExceptHandler (some (.Name "ZeroDivisionError" np)) none (b₀ :: suite) pos :: rest)) Q E s₃) E s₂) E s4 := by
  refine wpAny_looks_onW hA hf R fun h4 hh4 u4 => ?_
  refine wpAny_landsW hh4 fun h5 hh5 u5 => ?_
  have hk : ∀ b o,F1.c.b0.get? b = some o -> h5.get? b = some o := fun b o q => hh5.1 b o (base_get (a1.k.keep b o q) (fra_ne a1.k hfs q))
  refine wpAny_handleBy_builtin (X:="ZeroDivisionError") (T:="ZeroDivisionError") (b:=true) PySem.F.isExc_ZeroDivisionError PySem.F.notTuple_ZeroDivisionError (by rw [isSubtype_type]; kernel_rfl) ?_
  refine Calls.Name_function_global a1.fr.kind ((a1.K _).trans hg.k) (Calls.loadGlobal_builtin (mg:=F1.c.mg) (mb:=F1.c.mb) (a1.fr.glb ▸ F1.c.g.keeps hk) z1 (a1.fr.blt ▸ F1.c.b.keeps hk) z2 ⟨rfl,hh5.there,?_⟩) hg.d
  rw [if_pos rfl]
  exact lands_againW hh5 fun h6 hh6 u6 => wpAny_mono (k h6 hh6.1 (((U.trans u4).trans u5).trans u6)) (fun _ _ q => q) fun _ _ q => q.elim
end
section
variable {F : Fx} {ρ : Loc} {O : Ow} {σ : St}
theorem raise_here (a : Ok F ρ O σ) {t : Expr} {x : X} {np rp ip : Pos} {els rest : List Stmt} (ht : ST F t x) (ev : evT F.ε x ρ = some true) (hg : IsGlob F "ZeroDivisionError") (z1 : F.c.mg "ZeroDivisionError" = none) (z2 : F.c.mb "ZeroDivisionError" = some (.type "ZeroDivisionError")) {E : Value -> Shared -> Prop} {Q : Flow -> Shared -> Prop}
    (k : ∀ σ1 h' e,Sp F.c σ σ1 -> Ok F ρ O σ1 -> Heap.NewExc σ1.s.heap h' e "ZeroDivisionError" -> E (.ref e) { σ1.s with heap := h' }) :
    wpAny F.M F.A (execs (.If t [.Raise (some (.Name "ZeroDivisionError" np)) none rp] els ip :: rest) F.env) Q E σ.s :=
  wpAny_execs_cons (wpAny_If (wpAny_mono ((ht ρ O σ true a ev).then a (Q:=fun b s => b = true /\ ∃ σ1,Sp F.c σ σ1 /\ Ok F ρ O σ1 /\ σ1.s = s) fun σ1 w1 a1 => ⟨rfl,σ1,w1,a1,rfl⟩)
    (fun b s ⟨hb,σ1,w1,a1,e1⟩ => by
      subst hb; subst e1
      rw [if_pos rfl]
      refine wpAny_execs_cons (Raise_classB a.R.1 excClass_ZeroDivisionError PySem.F.self_ZeroDivisionError ?_ fun h' e hn => k σ1 h' e w1 a1 hn)
      exact wpAny_mono (load_mb a1 hg z1 z2 (Q:=fun v s => v = .type "ZeroDivisionError" /\ s = σ1.s) ⟨rfl,rfl⟩) (fun _ _ q => q) fun _ _ q => q.elim) fun _ _ q => q.elim))
end
end
section
set_option genInjectivity false
set_option genSizeOfSpec false
theorem lookup_apd {α β : Type} [BEq α] {k : α} : ∀ (l m : List (α × β)),(l ++ m).lookup k = (l.lookup k).or (m.lookup k)
  | [],m => rfl
  | (a,b) :: l,m => by
    rw [List.cons_append,List.lookup_cons,List.lookup_cons,lookup_apd l m]
    cases k == a <;> rfl
theorem lookup_not {x : Str} : ∀ {l : List (Str × Value)},(∀ p ∈ l,p.1 ≠ x) -> l.lookup x = none
  | [],_ => rfl
  | (a,b) :: l,h => by
    rw [List.lookup_cons,lookup_not fun p q => h p (.tail _ q)]
    have : (x == a) = false := by simpa using fun q => h (a,b) (.head _) (Eq.symm q)
    rw [this]
theorem lookup_rev {y : Str} : ∀ {names : List Str} {vs : List Value} {i : Nat} {u : Value},names.Nodup -> names[i]? = some y -> vs[i]? = some u -> (names.zip vs).reverse.lookup y = some u
  | [],_,_,_,_,h,_ => noneE h
  | _ :: _,[],_,_,_,_,h => noneE h
  | x :: r,v :: vs,i,u,hn,h1,h2 => by
    rw [List.nodup_cons] at hn
    rw [List.zip_cons_cons,List.reverse_cons,lookup_apd]
    cases i with
    | zero =>
      obtain rfl := Option.some.inj h1
      obtain rfl := Option.some.inj h2
      have h0 : (r.zip vs).reverse.lookup x = none := lookup_not fun p hp q => hn.1 (by rw [<- q]; exact (List.of_mem_zip (List.mem_reverse.mp hp)).1)
      rw [h0]
      simp
    | succ i => rw [lookup_rev hn.2 h1 h2]; rfl
section
variable {c : Cx} {τ : Tb} {ε : Ev} {n : Nat}
structure PlainOk (τ : Tb) (np : Nat) (params : Arguments) (scope : Scope) : Prop where
  p : plainParams params = true
  nm : params.args.map (·.arg) = τ.nm.take np
  len : params.args.length = np
  nd : (params.args.map (·.arg)).Nodup
  kind : scope.kind = .function
  co : scope.isCoroutine = false
  gen : scope.isGenerator = false
  cell : ∀ p ∈ scope.names,p.2 ≠ .cell
  free : ∀ p ∈ scope.names,p.2 ≠ .free
  loc : ∀ x ∈ params.args.map (·.arg),scope.names.lookup x = some .local
theorem mem_of_look {x : Str} {k : NameKind} : ∀ {l : List (Str × NameKind)},l.lookup x = some k -> (x,k) ∈ l
  | [],h => noneE h
  | (y,z) :: l,h => by
    rw [List.lookup_cons] at h
    cases q : x == y with
    | true => rw [q] at h; cases Option.some.inj h; rw [eq_of_beq q]; exact .head _
    | false => rw [q] at h; exact .tail _ (mem_of_look h)
theorem plain_call {x : Str} {a : Addr} {params : Arguments} {body : List Stmt} {scope : Scope} {np k : Nat} (fa : FnAt c x a params body scope) (ok : PlainOk τ np params scope) {args : List V} (hlen : args.length = np) {A : Around} {σ : St} {vs : List Value} (R : Room A (n + 1)) (hk : OkS c σ.Φ σ.s) (t0 : 0 < σ.s.toks) (r : Reps σ.Φ args vs) {E : Value -> Shared -> Prop} {Q : Value -> Shared -> Prop}
    (h : ∀ env σ1,Sp c σ σ1 -> env.frame = some env.locals -> σ.s.heap.get? env.locals = none -> Ok (fx c τ ε n (fun y => scope.names.lookup y) (A.deeper env) env) (startL args k) (fun _ => none) σ1 ->
      wpAny (model c.prog c.w) (A.deeper env) (execs body env) (fun f s' => Q (match f with | .ret v => v | _ => .none) s') (fun e s' => wpAny (model c.prog c.w) (A.deeper env) (leaving env e) (fun _ s'' => E e s'') (fun e' s'' => E e' s'') s') σ1.s) :
    wpAny (model c.prog c.w) A (call (.ref a) vs) Q E σ.s := by
  obtain ⟨o,pm,cd,doc,h1,h2,h3,h4⟩ := fa.fn
  have hvl : vs.length = params.args.length := r.length.trans (hlen.trans ok.len.symm)
  refine wpAny_call (call_plain (Nat.lt_of_le_of_lt (by lia) R.2.1) (hk.keep _ _ h2) h3 (c.nolimit.keeps hk.keep) (h4.keeps hk.keep) (bind_pos ok.p hvl) (fun y hy => ok.loc _ (List.of_mem_zip hy).1) (fun h₁ Fr => ?_) ok.co ok.gen ok.kind ok.cell)
  have w1 : Sp c σ ⟨σ.Φ,{ σ.s with heap := h₁,toks := σ.s.toks + ((params.args.map (·.arg)).zip vs).length }⟩ := Wd.keep hk Fr.keep
  exact h (envOf x scope σ.s.heap.objs.size a cd) _ w1 rfl (get_size _) ⟨fun y => rfl,R.deeper _,start_ok ok.kind rfl rfl (ok.nm.trans (hlen ▸ rfl)) r Fr.ns (fun i y u q5 e2 q3 => lookup_rev ok.nd q5 q3)
    (fun y cl e => noneE e) (fun y hy => hy.elim (fun q => absurd rfl (ok.cell _ (mem_of_look q))) fun q => absurd rfl (ok.free _ (mem_of_look q))) (fun y z cl e => noneE e) (fun y cl e => noneE e)
    fun b hb => hb.elim (fun q => q ▸ ⟨hk.fresh_F (get_size _),hk.fresh_T (get_size _)⟩) fun ⟨y,e⟩ => noneE e,Wd.ok w1,Nat.lt_of_lt_of_le t0 (Nat.le_add_right _ _)⟩
end
end
section
set_option genInjectivity false
set_option genSizeOfSpec false
section
variable {c : Cx} {F : Fx} {ρ : Loc} {O : Ow} {σ : St}
theorem Ok.slots (a : Ok F ρ O σ) {X : Addr -> Prop} {h' : Heap} {tk : Tok} (w : Wd F.c X σ.Φ σ.s σ.Φ { σ.s with heap := h',toks := tk }) (hX : ∀ b,X b -> (b = F.env.locals ∨ ¬ Mut F.env b) /\ O b = none) (hns : ∀ m,σ.s.heap.Ns F.env.locals m -> h'.Ns F.env.locals m) (ht : 0 < tk) : Ok F ρ O ⟨σ.Φ,{ σ.s with heap := h',toks := tk }⟩ where
  K := a.K
  R := a.R
  k := Wd.ok w
  t := ht
  fr := {
    kind := a.fr.kind
    glb := a.fr.glb
    blt := a.fr.blt
    ns := let ⟨m,h1,h2⟩ := a.fr.ns; ⟨m,hns m h1,fun i x d a1 a2 a3 => let ⟨v,b1,b2,b3⟩ := h2 i x d a1 a2 a3; ⟨v,b1,b2.wide w fun b y => (hX b y).2,b3⟩⟩
    cell := fun x cl e => by
      obtain ⟨v,⟨o,eo,h1⟩,h2⟩ := a.fr.cell x cl e
      have q := a.fr.off _ (.inr ⟨x,e⟩)
      exact ⟨v,⟨o,w.pres _ _ eo q.2.2 fun y => (hX _ y).1.elim (a.fr.Lc x cl e) fun z => z (.inr ⟨x,e⟩),h1⟩,fun a0 i d a1 a2 => let ⟨u,b1,b2,b3⟩ := h2 a0 i d a1 a2; ⟨u,b1,b2.wide w fun b y => (hX b y).2,b3⟩⟩
    has := a.fr.has
    uni := a.fr.uni
    apart := a.fr.apart
    Lc := a.fr.Lc
    off := a.fr.off
    own := fun b i e => by
      obtain ⟨⟨o,eo⟩,q1,q2⟩ := a.fr.own b i e
      exact ⟨⟨o,w.pres _ _ eo q2 fun y => by rw [(hX b y).2] at e; cases e⟩,q1,q2⟩ }
theorem toE {α : Type} {t : Sem α} {Q : α -> Shared -> Prop} {s : Shared} {E : Value -> Shared -> Prop} (h : F.W t Q s) : wpAny F.M F.A t Q E s := wpAny_mono h (fun _ _ q => q) fun _ _ q => q.elim
theorem call_nameE (b : Ok F ρ O σ) {id : Str} {args : List Expr} {p pos : Pos} {xs : Xs} {ds : List D} {vs : List V} {a : Addr} {P : Arguments} {B : List Stmt} {S : Scope} (hg : IsGlob F id) (hs : NoStar args) (fa : FnAt F.c id a P B S) (hx : SXs F args xs) (ev : evXs F.ε xs ρ = some ds) (fz : fzs ds = some vs) {E Q : Value -> Shared -> Prop}
    (k : ∀ us σ2,Sp F.c σ σ2 -> Reps σ2.Φ vs us -> Ok F ρ O σ2 -> wpAny F.M F.A (call (.ref a) us) Q E σ2.s) : wpAny F.M F.A (eval (.Call (.Name id p) args [] pos) F.env) Q E σ.s :=
  let ⟨o,pm,cd,doc,e1,e2,e3,e4⟩ := fa.fn
  PyProof.Rows.Call_Name (hs.back _ _) (toE (load_mg b hg e1 (Calls.callWith_function (o:=o) (toE (evalArgs_any ((hx ρ O σ ds b ev).then b fun us σ1 w1 r1 b1 =>
    let ⟨Φ2,w2,_,r2⟩ := freezes w1 r1 fz
    ⟨⟨(Wd.ok w2).keep _ _ e2,e3⟩,k us ⟨Φ2,σ1.s⟩ w2 r2 (b.next (σ' := ⟨Φ2,σ1.s⟩) w2 b1.t)⟩))))))
noncomputable abbrev rf1 : Tb := ⟨["number"],[],[],""⟩
noncomputable abbrev rf2 : Tb := ⟨["a","b"],[],[],""⟩
noncomputable abbrev ev0 : Ev := ⟨fun _ _ => none,fun _ => none,[]⟩
structure RfOk (c : Cx) (P1 P2 : Arguments) (S1 S2 : Scope) : Prop where
  o1 : PlainOk rf1 1 P1 S1
  o2 : PlainOk rf2 2 P2 S2
  g1 : S1.names.lookup ("int_divmod" : Str) = some .globalImplicit
  g2 : S1.names.lookup ("ZeroDivisionError" : Str) = some .globalImplicit
  g3 : S2.names.lookup ("ZeroDivisionError" : Str) = some .globalImplicit
  l1 : S1.names.lookup ("number" : Str) = some .local
  l2 : S2.names.lookup ("b" : Str) = some .local
  z1 : c.mg "ZeroDivisionError" = none
  z2 : c.mb "ZeroDivisionError" = some (.type "ZeroDivisionError")
theorem divide_raises {P1 P2 : Arguments} {S1 S2 : Scope} (H : RfOk F.c P1 P2 S1 S2) (a : Ok F ρ O σ) {out : List Env} (hA : F.A.frames = some out) (hfr : ∀ e ∈ out,∀ σ',Sp F.c σ σ' -> FrA F.c σ' e) (R : Room F.A 2) {a2 : Addr} {q1 q2 q3 q4 q5 q6 : Pos} {k3 : Nat} {r2 els : List Stmt}
    (f2 : FnAt F.c "int_divmod" a2 P2 (.If (.Compare (.Name "b" q1) [.Eq] [.Constant (.int 0) k3 q2] q3) [.Raise (some (.Name "ZeroDivisionError" q4)) none q5] els q6 :: r2) S2) {d : V} {us : List Value} (r : Reps σ.Φ [d,.int 0] us) {E Q : Value -> Shared -> Prop}
    (k : ∀ σ2 env2 e h4 a0,Sp F.c σ σ2 -> FrA F.c σ2 env2 -> σ.s.heap.get? env2.locals = none -> Heap.FlyingW (baseOf σ2 (env2 :: out)) out e (.type "ZeroDivisionError") a0 h4 -> σ2.s.heap.UpToSlots h4 -> 0 < σ2.s.toks -> E (.ref e) { σ2.s with heap := h4 }) :
    wpAny F.M F.A (call (.ref a2) us) Q E σ.s :=
  plain_call (ε:=ev0) (n:=1) (k:=0) f2 H.o2 rfl R a.k a.t r fun env2 σ1 w1 hf2 hn2 b2 =>
    raise_here b2 (core_cmpT (x:=.var 1) (y:=.lit (.int 0)) (core_var ⟨rfl,.inl H.l2,rfl,rfl⟩) core_lit_int rfl) rfl ⟨H.g3,rfl⟩ H.z1 H.z2 fun σ2 h' e w2 b2' hn =>
      leave_exc hA (List.forall_mem_cons.mpr ⟨b2'.fra hf2,fun e he => hfr e he σ2 (w1.to w2)⟩) hn rfl fun h4 a0 R U => k σ2 env2 e h4 a0 (w1.to w2) (b2'.fra hf2) hn2 R U b2'.t
end
end
section
set_option genInjectivity false
set_option genSizeOfSpec false
section
variable {c : Cx} {F : Fx} {ρ : Loc} {O : Ow} {σ σ' : St} {env : Env}
theorem FrA.next (h : FrA c σ env) (w : Sp c σ σ') : FrA c σ' env :=
  let ⟨m,o,es,ep,e,q⟩ := h.ns
  ⟨h.kind,h.fr,Wd.stays w e h.ph id,h.t,⟨m,o,es,ep,w.pres _ _ e h.t id,q⟩⟩
theorem env2s {P : Env -> Prop} {a b : Env} (h1 : P a) (h2 : P b) : ∀ e ∈ [a,b],P e := List.forall_mem_cons.mpr ⟨h1,List.forall_mem_cons.mpr ⟨h2,fun _ q => nomatch q⟩⟩
theorem env3s {P : Env -> Prop} {a b d : Env} (h1 : P a) (h2 : P b) (h3 : P d) : ∀ e ∈ [a,b,d],P e := List.forall_mem_cons.mpr ⟨h1,env2s h2 h3⟩
theorem refused_end (a : Ok F ρ O σ) (hf : F.env.frame = some F.env.locals) {σ3 : St} {e1 e2 : Env} (w : Sp F.c σ σ3) (n1 : σ.s.heap.get? e1.locals = none) (n2 : σ.s.heap.get? e2.locals = none) (h1 : FrA F.c σ3 e1) (h2 : FrA F.c σ3 e2) (t3 : 0 < σ3.s.toks) {h6 : Heap} (st : (baseOf σ3 [e2,e1,F.env]).StaysIn h6) (u : σ3.s.heap.UpToSlots h6) :
    Wd F.c (fun b => b = F.env.locals) σ.Φ σ.s σ3.Φ { σ3.s with heap := h6 } /\ Ok F ρ O ⟨σ3.Φ,{ σ3.s with heap := h6 }⟩ := by
  have a3 := a.next w t3
  have y := Wd.frames (tk:=σ3.s.toks) a3.k (es:=[e2,e1,F.env]) (env3s h2 h1 (a3.fra hf)) st
  have no : ∀ b,(∃ e ∈ [e2,e1,F.env],e.locals = b) -> b = F.env.locals ∨ σ.s.heap.get? b = none := fun b ⟨e,he,q⟩ => by
    rcases List.mem_cons.mp he with rfl | he
    · exact .inr (q ▸ n2)
    · rcases List.mem_cons.mp he with rfl | he
      · exact .inr (q ▸ n1)
      · rcases List.mem_cons.mp he with rfl | he
        · exact .inl q.symm
        · exact nomatch he
  refine ⟨Wd.trans (Wd.any w) y no,a3.slots y (fun b hb => ?_) (fun m hm => u.ns hm) t3⟩
  rcases no b hb with rfl | hn
  · exact ⟨.inl rfl,(a.fr.off _ (.inl rfl)).2.1⟩
  · refine ⟨.inr fun q => ?_,?_⟩
    · obtain ⟨o,e⟩ := a.fr.alive q; rw [hn] at e; cases e
    · cases q : O b with
      | none => rfl
      | some i => obtain ⟨⟨o,e⟩,_⟩ := a.fr.own b i q; rw [hn] at e; cases e
theorem refused_call {P1 P2 : Arguments} {S1 S2 : Scope} (H : RfOk F.c P1 P2 S1 S2) (a : Ok F ρ O σ) (hA : F.A.frames = some [F.env]) (hf : F.env.frame = some F.env.locals) (R : Room F.A 3)
    {a1 a2 : Addr} {p1 p2 p3 p4 p5 p6 p7 p8 p9 p10 q1 q2 q3 q4 q5 q6 : Pos} {k1 k2 k3 : Nat} {r1 r2 els : List Stmt}
    (f1 : FnAt F.c "_law_refused" a1 P1 (.Try [.Expr (.Call (.Name "int_divmod" p1) [.Name "number" p2,.Constant (.int 0) k1 p3] [] p4) p5] [.ExceptHandler (some (.Name "ZeroDivisionError" p6)) none [.Return (some (.Constant (.bool true) k2 p7)) p8] p9] [] [] p10 :: r1) S1)
    (f2 : FnAt F.c "int_divmod" a2 P2 (.If (.Compare (.Name "b" q1) [.Eq] [.Constant (.int 0) k3 q2] q3) [.Raise (some (.Name "ZeroDivisionError" q4)) none q5] els q6 :: r2) S2)
    {d : V} {v : Value} (r : Rep σ.Φ d v) {Q : Value -> Shared -> Prop} (k : ∀ σ',Wd F.c (fun b => b = F.env.locals) σ.Φ σ.s σ'.Φ σ'.s -> Ok F ρ O σ' -> Q (.bool true) σ'.s) : F.W (call (.ref a1) [v]) Q σ.s :=
  plain_call (ε:=ev0) (n:=2) (k:=0) f1 H.o1 (args:=[d]) rfl R a.k a.t (.cons r .nil) fun env1 σ1 w1 hf1 hn1 b1 =>
    have A1 : (F.A.deeper env1).frames = some [env1,F.env] := Around.frames_deeper hA
    wpAny_execs_cons (wpAny_Try_except (wpAny_execs_cons (wpAny_Expr_any (call_nameE b1 ⟨H.g1,rfl⟩ (fun _ => rfl) f2 (xs:=.cons (.var 0) (.cons (.lit (.int 0)) .nil)) (core_cons (core_var ⟨rfl,.inl H.l1,rfl,rfl⟩) (core_cons core_lit_int core_nil)) rfl rfl fun us σ2 w2 r2 b2 =>
      divide_raises (F:=fx F.c rf1 ev0 2 (fun y => S1.names.lookup y) (F.A.deeper env1) env1) H b2 A1 (env2s (P:=fun e => ∀ σ',Sp F.c σ2 σ' -> FrA F.c σ' e) (fun σ' w => (b2.fra hf1).next w) fun σ' w => ((a.fra hf).next (w1.to w2)).next w) b2.R f2 r2 fun σ3 env2 e h4 a0 w3 fe2 hn2 RR U t3 =>
        have w := w1.to (w2.to w3)
        have b3 := b2.next w3 t3
        caught_exc b3 (out:=[F.env]) (fs:=[env2,env1,F.env]) A1 hf1 (env3s fe2 (b3.fra hf1) ((a.fra hf).next w)) RR U ⟨H.g2,rfl⟩ H.z1 H.z2 fun h6 st u6 =>
          wpAny_execs_cons (wpAny_Return_some (wpAny_Constant_bool (let ⟨x,y⟩ := refused_end a hf w hn1 (none_back (Wd.up (w1.to w2)) hn2) (b3.fra hf1) fe2 t3 st u6; k _ x y)))) (by unfold interactive; rw [b1.fr.kind]; rfl) rfl)))
end
end
section
set_option genInjectivity false
set_option genSizeOfSpec false
set_option backward.match.sparseCases false
noncomputable def RfAll (c : Cx) : Prop := ∃ (a1 a2 : Addr) (P1 P2 : Arguments) (S1 S2 : Scope) (p1 p2 p3 p4 p5 p6 p7 p8 p9 p10 q1 q2 q3 q4 q5 q6 : Pos) (k1 k2 k3 : Nat) (r1 r2 els : List Stmt),RfOk c P1 P2 S1 S2 /\
    FnAt c "_law_refused" a1 P1 (.Try [.Expr (.Call (.Name "int_divmod" p1) [.Name "number" p2,.Constant (.int 0) k1 p3] [] p4) p5] [.ExceptHandler (some (.Name "ZeroDivisionError" p6)) none [.Return (some (.Constant (.bool true) k2 p7)) p8] p9] [] [] p10 :: r1) S1 /\
    FnAt c "int_divmod" a2 P2 (.If (.Compare (.Name "b" q1) [.Eq] [.Constant (.int 0) k3 q2] q3) [.Raise (some (.Name "ZeroDivisionError" q4)) none q5] els q6 :: r2) S2
section
variable {F : Fx} {ρ : Loc} {O : Ow} {σ : St}
theorem refused_eval (H : RfAll F.c) (a : Ok F ρ O σ) (hA : F.A.frames = some [F.env]) (hf : F.env.frame = some F.env.locals) (R : Room F.A 3) {e : Expr} {y : X} {i : Int} {p pos : Pos} (hg : IsGlob F "_law_refused") (hs : NoStar [e]) (he : SE F e y) (ev : evE F.ε y ρ = some (.v (.int i))) {Q : Value -> Shared -> Prop}
    (k : ∀ σ',Wd F.c (fun b => b = F.env.locals) σ.Φ σ.s σ'.Φ σ'.s -> Ok F ρ O σ' -> Q (.bool true) σ'.s) : F.W (eval (.Call (.Name "_law_refused" p) [e] [] pos) F.env) Q σ.s := by
  obtain ⟨a1,a2,P1,P2,S1,S2,p1,p2,p3,p4,p5,p6,p7,p8,p9,p10,q1,q2,q3,q4,q5,q6,k1,k2,k3,r1,r2,els,H,f1,f2⟩ := H
  refine call_nameE a hg hs f1 (xs:=.cons y .nil) (ds:=[.v (.int i)]) (vs:=[.int i]) (core_cons he core_nil) (by show (evE F.ε y ρ).bind _ = _; rw [ev]; rfl) rfl fun us σ2 w2 r b => ?_
  cases r with
  | cons r rs => cases rs with
    | nil => exact refused_call H b hA hf R f1 f2 r fun σ' w b' => k σ' (Wd.trans (Wd.any w2) w fun _ q => .inl q) b'
theorem stm_refused (H : RfAll F.c) (hA : F.A.frames = some [F.env]) (hf : F.env.frame = some F.env.locals) (hn : 3 ≤ F.n) {t e : Expr} {x y : X} {bs : List Stmt} {bx : Ss} {p p1 p2 p3 p4 : Pos} (hg : IsGlob F "_law_refused") (hs : NoStar [e]) (ht : ST F t x) (he : SE F e y) (hb : SSs F bs bx) :
    SS F (.If (.BoolOp .Or [t,.UnaryOp .Not (.Call (.Name "_law_refused" p) [e] [] p1) p2] p3) bs [] p4) (.ife (.bop .Or (.cons x (.cons (.cmp .Lt y y) .nil))) bx .nil) := fun ρ O σ q a h =>
  bindE h fun b e1 h => wpAny_If (wpAny_isTrue_BoolOp (bindE (show (evT F.ε x ρ).bind (fun t => if t = true then some t else evA F.ε .Or (.cons (.cmp .Lt y y) .nil) ρ) = some b from e1) fun t e2 e3 =>
    wpAny_allTrue_Or_cons ((ht ρ O σ t a e2).then a fun σ1 w1 a1 => match t,e3 with
      | true,e3 => by
        have hb' : b = true := (Option.some.inj e3).symm
        subst hb'
        rw [if_pos rfl,if_pos rfl]
        exact wpAny_mono (hb ρ O σ1 q a1 h) (fun _ _ h2 => SPost.back (.of w1) h2) fun _ _ q => q
      | false,e3 => bindE (show (evT F.ε (.cmp .Lt y y) ρ).bind (fun t => if t = true then some t else some false) = some b from e3) fun u e4 e5 => bindE (show (evE F.ε y ρ).bind (fun x => (evE F.ε y ρ).bind fun y => cmpD .Lt x y) = some u from e4) fun d ed e4 => by
        rw [ed] at e4
        obtain ⟨i,hi,e4⟩ := Option.bind_eq_some_iff.mp (show d.int.bind (fun x => d.int.bind fun y => some (decide (x < y))) = some u from e4)
        rw [hi] at e4
        have hu : u = false := by rw [<- Option.some.inj e4]; exact decide_eq_false (Int.lt_irrefl i)
        subst hu
        have hb' : b = false := (Option.some.inj e5).symm
        subst hb'
        have hd := D.intE hi
        subst hd
        refine wpAny_allTrue_Or_cons (isTrue_not (wpAny_isTrue_value (refused_eval H a1 hA hf (a.R.le hn) hg hs he ed fun σ' w a' => wpAny_truthy_bool ?_)))
        have hq : q = (.next,ρ) := (Option.some.inj h).symm
        subst hq
        refine wpAny_allTrue_Or_nil (wpAny_execs_nil ?_)
        have w2 := Wd.trans (X:=fun b => b = F.env.locals) (Wd.any w1) w fun _ q => .inl q
        exact ⟨σ'.Φ,O,⟨Wd.weak w2 fun b hb => .inl (.inr (.inl (.inl hb))),fun b _ e => (Classical.em (b = F.env.locals)).elim (fun q => q ▸ let ⟨o,e⟩ := a'.fr.alive (.inl rfl); by rw [e]; rfl) fun q => w2.grow b q e,fun _ _ e => .inl e⟩,a'.fr,a'.t⟩)))
end
end
section
set_option genInjectivity false
set_option genSizeOfSpec false
set_option backward.match.sparseCases false
section
variable (c : Cx) (τ : Tb) (ε : Ev) (n : Nat)
noncomputable def Last (A : Around) (env : Env) : Prop := A.frames = some [env] /\ env.frame = some env.locals
noncomputable abbrev SndL (K : Kd) (es : List Stmt) : Type := { x : Ss // ∀ A env,Last A env -> SSs (fx c τ ε n K A env) es x }
noncomputable abbrev SndR (K : Kd) (st : Stmt) : Type := { x : S // ∀ A env,Last A env -> SS (fx c τ ε n K A env) st x }
variable {c τ ε n} {K : Kd}
noncomputable def refS (H : RfAll c) (hn : 3 ≤ n) (G : Gd c τ ε n) (K : Kd) (bx : Ss) : ∀ st : Stmt,Option (SndR c τ ε n K st)
  | .If (.BoolOp .Or [t,.UnaryOp .Not (.Call (.Name id p) [e] [] p1) p2] p3) bs [] p4 => if h : id = ("_law_refused" : Str) /\ GlobOk K id then (toX G 100 K t).bind fun x => (toX G 100 K e).bind fun y => (toSs G K bx bs).bind fun b =>
      some ⟨.ife (.bop .Or (.cons x.1 (.cons (.cmp .Lt y.1 y.1) .nil))) b.1 .nil,fun A env l => by obtain ⟨rfl,h⟩ := h; exact stm_refused H l.1 l.2 hn (GlobOk.is h) (star1 (y.2 A env)) (x.2 A env).t (y.2 A env).e (b.2 A env)⟩ else none
  | _ => none
noncomputable def S.then : S -> Ss
  | .ife _ a _ => a
  | _ => .nil
noncomputable def toSsL (H : RfAll c) (hn : 3 ≤ n) (G : Gd c τ ε n) (K : Kd) : ∀ (k : Nat) (x : Ss) (es : List Stmt),Option (SndL c τ ε n K es)
  | 0,.cons s r,e :: es => (refS H hn G K s.then e).bind fun x => (toSs G K r es).bind fun r => some ⟨.cons x.1 r.1,fun A env l => stm_cons (x.2 A env l) (r.2 A env)⟩
  | k + 1,.cons s r,e :: es => (toS G K s e).bind fun x => (toSsL H hn G K k r es).bind fun r => some ⟨.cons x.1 r.1,fun A env l => stm_cons (x.2 A env) (r.2 A env l)⟩
  | _,_,_ => none
end
noncomputable def FitsL (c : Cx) (τ : Tb) (K : Kd) (k : Nat) (bx : Ss) (body : List Stmt) : Prop := ∀ ε n (H : RfAll c) (hn : 3 ≤ n) (G : Gd c τ ε n),(toSsL H hn G K k bx body).map (·.1) = some bx
theorem FitsL.sound {c : Cx} {τ : Tb} {ε : Ev} {n : Nat} {K : Kd} {k : Nat} {bx : Ss} {body : List Stmt} (fit : FitsL c τ K k bx body) (H : RfAll c) (hn : 3 ≤ n) (G : Gd c τ ε n) {A : Around} {env : Env} (l : Last A env) : SSs (fx c τ ε n K A env) body bx := mapE (fit ε n H hn G) fun x _ e2 => e2 ▸ x.2 A env l
noncomputable abbrev FitLaw (c : Cx) (p : Program) (fs : List (Str × FnX)) (x : Str) (nm : List Str) (k : Nat) (bx : Ss) : Prop :=
  ∀ ε n (H : RfAll c) (hn : 3 ≤ n) (G : Gd c (Dt fs nm) ε n),(defAt p x).map (fun d => (toSsL H hn G (fun y => d.scope.names.lookup y) k bx d.body).map (·.1)) = some (some bx)
theorem FitLaw.of {c : Cx} {p : Program} {fs : List (Str × FnX)} {x : Str} {nm : List Str} {k : Nat} {bx : Ss} {d : DefRec} (h : FitLaw c p fs x nm k bx) (e : defAt p x = some d) : FitsL c (Dt fs nm) (fun y => d.scope.names.lookup y) k bx d.body := fun ε n H hn G => by
  have z := h ε n H hn G
  rw [e] at z
  exact Option.some.inj z
section
variable {c : Cx} {τ : Tb} {ε : Ev} {n : Nat}
theorem law_sound2 (H : RfAll c) (hn : 3 ≤ n) (G : Gd c τ ε n) {x : Str} {a : Addr} {params : Arguments} {body : List Stmt} {scope : Scope} {k j : Nat} {bx : Ss} (fa : FnAt c x a params body scope) (ok : FnOk τ 1 params scope) (fit : FitsL c τ (fun y => scope.names.lookup y) j bx body)
    (hloc : ∀ y ∈ params.args.map (·.arg),scope.names.lookup y = some .local) {arg : V} {d : V} {ρ' : Loc}
    (ev : evSs ε bx (startL [arg] k) = some (.ret d,ρ')) {A : Around} (hA : A.frames = some []) {Φ : Fz} {s : Shared} {v : Value} (R : Room A (n + 1)) (hk : OkS c Φ s) (r : Rep Φ arg v) :
    codeAny (model c.prog c.w) A (.call (.ref a) ⟨[v],[]⟩) (fun q s' => ∃ u,q = .ok (.ret u) /\ PostV c Φ s d u s') s := by
  obtain ⟨o,pm,cd,doc,h1,h2,h3,h4⟩ := fa.fn
  obtain ⟨y,hy⟩ : ∃ y,params.args.map (·.arg) = [y] := List.length_eq_one_iff.mp (Eq.trans (List.length_map _) ok.1.2.2)
  have hloc' : scope.names.lookup y = some .local := hloc y (hy ▸ .head _)
  have hb := bind_pos (name:=x) (body:=body) (scope:=scope) (pm:=pm) (cd:=cd) (doc:=doc) (vs:=[v]) ok.1.1 ok.1.2.2.symm
  have hz : (params.args.map (·.arg)).zip [v] = [(y,v)] := by rw [hy]; rfl
  rw [hz] at hb
  refine call_cells_one (R:=fun q s' => ∃ u,q = .ok (.ret u) /\ PostV c Φ s d u s') hloc' (Nat.lt_of_le_of_lt (by lia) R.2.1) (hk.keep _ _ h2) h3 (c.nolimit.keeps hk.keep) (h4.keeps hk.keep) hb (fun h₁ tk t1 F X => ?_) ok.2.2.1.2.1 ok.2.2.1.2.2 ok.2.2.1.1
  rw [<- hz] at F X
  have ⟨w1,a1,hMut⟩ := body_enter (ε:=ε) (args:=[arg]) k ok rfl R hk (.cons r .nil) t1 F X rfl
  exact wpAny_mono (fit.sound H hn G ⟨Around.frames_deeper hA,rfl⟩ _ _ _ _ a1 ev) (fun f s' ⟨Φ',O',x1,x2,x3⟩ => ⟨_,rfl,Φ',Wd.trans w1 x1.w fun b hb => .inr (hb.elim (fun q => q.elim) fun hb => hb.elim (hMut b) fun ⟨i,q⟩ => noneE q),x2.val⟩) fun _ _ q => q
end
noncomputable def Is1 (B : List Stmt) : Prop := ∃ (p1 p2 p3 p4 p5 p6 p7 p8 p9 p10 : Pos) (k1 k2 : Nat) (r1 : List Stmt),B = .Try [.Expr (.Call (.Name "int_divmod" p1) [.Name "number" p2,.Constant (.int 0) k1 p3] [] p4) p5] [.ExceptHandler (some (.Name "ZeroDivisionError" p6)) none [.Return (some (.Constant (.bool true) k2 p7)) p8] p9] [] [] p10 :: r1
noncomputable def Is2 (B : List Stmt) : Prop := ∃ (q1 q2 q3 q4 q5 q6 : Pos) (k3 : Nat) (r2 els : List Stmt),B = .If (.Compare (.Name "b" q1) [.Eq] [.Constant (.int 0) k3 q2] q3) [.Raise (some (.Name "ZeroDivisionError" q4)) none q5] els q6 :: r2
noncomputable def shape1 : ∀ B : List Stmt,Option (PLift (Is1 B))
  | .Try [.Expr (.Call (.Name f _) [.Name y _,.Constant (.int z) _ _] [] _) _] [.ExceptHandler (some (.Name x _)) none [.Return (some (.Constant (.bool b) _ _)) _] _] [] [] _ :: _ => if h : (f = ("int_divmod" : Str) /\ y = ("number" : Str)) /\ z = 0 /\ x = ("ZeroDivisionError" : Str) /\ b = true then
      some ⟨by obtain ⟨⟨rfl,rfl⟩,rfl,rfl,rfl⟩ := h; exact ⟨_,_,_,_,_,_,_,_,_,_,_,_,_,rfl⟩⟩ else none
  | _ => none
noncomputable def shape2 : ∀ B : List Stmt,Option (PLift (Is2 B))
  | .If (.Compare (.Name y _) [.Eq] [.Constant (.int z) _ _] _) [.Raise (some (.Name x _)) none _] _ _ :: _ => if h : y = ("b" : Str) /\ z = 0 /\ x = ("ZeroDivisionError" : Str) then
      some ⟨by obtain ⟨rfl,rfl,rfl⟩ := h; exact ⟨_,_,_,_,_,_,_,_,_,rfl⟩⟩ else none
  | _ => none
theorem lifted {P : Prop} {o : Option (PLift P)} (h : o.isSome = true) : P := match o,h with
  | some x,_ => x.down
noncomputable abbrev PlainB (τ : Tb) (np : Nat) (params : Arguments) (scope : Scope) : Prop := (plainParams params = true /\ params.args.map (·.arg) = τ.nm.take np /\ params.args.length = np /\ (params.args.map (·.arg)).Nodup) /\ scope.kind = .function /\ scope.isCoroutine = false /\ scope.isGenerator = false /\ (∀ p ∈ scope.names,p.2 ≠ .cell) /\ (∀ p ∈ scope.names,p.2 ≠ .free) /\ ∀ x ∈ params.args.map (·.arg),scope.names.lookup x = some .local
theorem PlainOk.of {τ : Tb} {np : Nat} {params : Arguments} {scope : Scope} : PlainB τ np params scope -> PlainOk τ np params scope := fun ⟨⟨a,b,d,e⟩,f,g,h,i,j,k⟩ => ⟨a,b,d,e,f,g,h,i,j,k⟩
noncomputable def rfCheck (p : Program) : Bool := match defAt p "_law_refused",defAt p "int_divmod" with
  | some d1,some d2 => (shape1 d1.body).isSome && ((shape2 d2.body).isSome && decide (PlainB rf1 1 d1.params d1.scope /\ PlainB rf2 2 d2.params d2.scope /\ d1.scope.names.lookup ("int_divmod" : Str) = some .globalImplicit /\ d1.scope.names.lookup ("ZeroDivisionError" : Str) = some .globalImplicit /\ d2.scope.names.lookup ("ZeroDivisionError" : Str) = some .globalImplicit /\ d1.scope.names.lookup ("number" : Str) = some .local /\ d2.scope.names.lookup ("b" : Str) = some .local))
  | _,_ => false
end
section
set_option genInjectivity false
set_option genSizeOfSpec false
theorem zde_free {p : Program} {loose : List Str} {mean : ExcName -> Option Value} {mg mb : Str -> Option Value} {h : Heap} (T : Top p loose mean mg mb h) (ok : freeOk p loose ["ZeroDivisionError"] = true) : mg "ZeroDivisionError" = none /\ mb "ZeroDivisionError" = some (.type "ZeroDivisionError") := by
  have := List.all_eq_true.mp ok _ (.head _)
  simp only [Bool.and_eq_true,Bool.not_eq_true',bne_iff_ne,ne_eq] at this
  obtain ⟨⟨⟨⟨⟨q1,q2⟩,q3⟩,q4⟩,q5⟩,q6⟩ := this
  exact ⟨T.free _ (by simpa using q1) (by simpa using q2) (by simpa using q3) (by simpa using q4) (by simpa using q5),(T.builtins _ q6).trans PyProof.Rows.Boot.«ZeroDivisionError»⟩
theorem rf_of {prog p : Program} {w : World} {s₁ : Shared} {ts : List Tab} {mg mb : Str -> Option Value} {loose : List Str} {mean : ExcName -> Option Value} (T : Top p loose mean mg mb s₁.heap) (hT : TabsAt (tabsOf ts) s₁.heap) (hz : freeOk p loose ["ZeroDivisionError"] = true) (hc : rfCheck p = true) : RfAll (mkCx prog w s₁ ts mg mb hT T.g T.b T.nolimit) := by
  unfold rfCheck at hc
  cases e1 : defAt p "_law_refused" with
  | none => rw [e1] at hc; exact Bool.noConfusion hc
  | some d1 => cases e2 : defAt p "int_divmod" with
    | none => rw [e1,e2] at hc; exact Bool.noConfusion hc
    | some d2 =>
      rw [e1,e2] at hc
      obtain ⟨s1,hc⟩ := Bool.and_eq_true_iff.mp hc
      obtain ⟨s2,hc⟩ := Bool.and_eq_true_iff.mp hc
      obtain ⟨o1,o2,g1,g2,g3,l1,l2⟩ := of_decide_eq_true hc
      obtain ⟨p1,p2,p3,p4,p5,p6,p7,p8,p9,p10,k1,k2,r1,b1⟩ := lifted s1
      obtain ⟨q1,q2,q3,q4,q5,q6,k3,r2,els,b2⟩ := lifted s2
      obtain ⟨z1,z2⟩ := zde_free T hz
      obtain ⟨m1,n1⟩ := defAt_name e1
      obtain ⟨m2,n2⟩ := defAt_name e2
      obtain ⟨a1,t1,pm1,cd1,doc1,x1,x2,x3,x4⟩ := T.fn d1 m1
      obtain ⟨a2,t2,pm2,cd2,doc2,y1,y2,y3,y4⟩ := T.fn d2 m2
      rw [n1] at x1 x3 x4
      rw [n2] at y1 y3 y4
      exact ⟨a1,a2,d1.params,d2.params,d1.scope,d2.scope,p1,p2,p3,p4,p5,p6,p7,p8,p9,p10,q1,q2,q3,q4,q5,q6,k1,k2,k3,r1,r2,els,⟨.of o1,.of o2,g1,g2,g3,l1,l2,z1,z2⟩,b1 ▸ fnAt_ghost x1 x2 x3 x4,b2 ▸ fnAt_ghost y1 y2 y3 y4⟩
theorem law_join2 {prog p : Program} {w : World} {s₁ : Shared} {ts : List Tab} {mg mb : Str -> Option Value} {loose : List Str} {mean : ExcName -> Option Value} {fs : List (Str × FnX)} {nm : List Str} {bx : Ss} {j : Nat}
    (T : Top p loose mean mg mb s₁.heap) (B : Tables p w mg s₁.heap) (hT : TabsAt (tabsOf ts) s₁.heap) (hg : s₁.gens = #[]) (hpw : ∀ h d D,IntTab p w h d D -> IntTab prog w h d D) (hfree : freeOk p loose biAll = true) (hz : freeOk p loose ["ZeroDivisionError"] = true) (hc : rfCheck p = true)
    (h0 : valOf p "_DIV_LIMIT" = some (.int 4000)) (h1 : valOf p "ELLIPSIS_MARKER" = some (.str "...")) (ht : tabIntOf p tname0 = some flagD) (hf : chkAll p fs = true) (hfit : ∀ q ∈ fs,fitOne (mkCx prog w s₁ ts mg mb hT T.g T.b T.nolimit) p fs q) (hl : okLaw p fs nm = true) (hlf : FitLaw (mkCx prog w s₁ ts mg mb hT T.g T.b T.nolimit) p fs "law" nm j bx)
    (hand : ∀ x m q,(x,FnX.hand m q) ∈ fs -> HandOk (mkCx prog w s₁ ts mg mb hT T.g T.b T.nolimit) p fs x m q)
    {fa a : Addr} {ns : List Int} {P : Params} (hmg : mg "law" = some (.ref fa)) (hw : Well P s₁.heap (.ref a) (ofPy (PyData.list (ns.map PyData.int)))) {ρ' : Loc}
    (ev : evSs ⟨run fs glob0 flagTab0 120,glob0,flagTab0⟩ bx (startL [.list (ns.map V.int)] (nm.length - 1)) = some (.ret (.bool true),ρ'))
    {cw : ClaimW} {cl : Str -> Option Addr} {args : List WData} (hr : ∀ a x,cw.raises a x = false) (hp : ∀ as : List WData,cw.post args (ofPy (.bool true)) args = true) :
    codeAny (model prog w) callerA (.call (.ref fa) ⟨[.ref a],[]⟩) (fun r s' => GoodW cw cl mean args { s₁ with heap := ghostOf s₁.heap (tabsOf ts) } r s' /\ GrownAll (tabsOf ts) s'.heap) s₁ := by
  have Gb := gdB_of (g:=T.g) (b:=T.b) (nl:=T.nolimit) (hT:=hT) T B hpw hfree h0 h1 ht hf hfit hand
  unfold okLaw at hl
  cases hd : defAt p "law" with
  | none => rw [hd] at hl; cases hl
  | some d =>
    rw [hd] at hl
    obtain ⟨hc',hloc⟩ := of_decide_eq_true hl
    obtain ⟨hmem,hn⟩ := defAt_name hd
    obtain ⟨a',o,pm,cd,doc,q1,q2,q3,q4⟩ := T.fn d hmem
    rw [hn] at q1 q3 q4
    rw [q1] at hmg
    cases hmg
    have fa' : FnAt (mkCx prog w s₁ ts mg mb hT T.g T.b T.nolimit) "law" fa d.params d.body d.scope := fnAt_ghost q1 q2 q3 q4
    exact codeAny_mono (law_sound2 (rf_of T hT hz hc) (by decide) (run_sound Gb 120 nm ⟨hc'.2.1.1,hc'.2.1.2⟩) fa' hc' (FitLaw.of hlf hd) hloc ev (A:=callerA) rfl room_caller (ok_start hg) (script_rep hT hw)) fun r s' ⟨u,e,q⟩ => by subst e; exact good_end hr hp q
end
end Mine
set_option maxHeartbeats 8000000
namespace Mine
noncomputable abbrev fns2 : List (Str × FnX) := common ++ rest02
theorem ck_free : freeOk vw1 (looseW vw1 ls1) biAll = true := by decide +kernel
theorem ck_zde : freeOk vw1 (looseW vw1 ls1) ["ZeroDivisionError"] = true := by decide +kernel
theorem ck_rf : rfCheck vw1 = true := by decide +kernel
theorem ck_c0 : valOf vw1 "_DIV_LIMIT" = some (.int 4000) := by kernel_rfl
theorem ck_c1 : valOf vw1 "ELLIPSIS_MARKER" = some (.str "...") := by kernel_rfl
theorem ck_tab : tabIntOf vw1 tname0 = some flagD := by kernel_rfl
theorem ck_all : chkAll vw1 fns2 = true := by decide +kernel
theorem ck_law : okLaw vw1 fns2 nm_law = true := by decide +kernel
theorem fits2 (c : Cx) : ∀ q ∈ fns2, fitOne c vw1 fns2 q := by
  repeat refine List.forall_mem_cons.mpr ⟨by first | exact trivial | exact fun ε n G => by kernel_rfl, ?_⟩
  exact fun q h => nomatch h
theorem fit_law (c : Cx) : FitLaw c vw1 fns2 "law" nm_law 6 tm_law2 := fun ε n H hn G => by kernel_rfl
noncomputable def tabI : Tab := ⟨34, 30, 32, 4, ("_int2digits" : Str) ++ (".<locals>." : Str) ++ ("inner" : Str)⟩
noncomputable def tabD : Tab := ⟨41, 37, 47, 4, ("_digits2int" : Str) ++ (".<locals>." : Str) ++ ("inner" : Str)⟩
noncomputable def tabs02 : List Tab := [tabI, tabD]
theorem ck_i2d (c : Cx) : FitI c vw1 fns2 tabI := fun ε n ε' G G' => by kernel_rfl
theorem ck_d2i (c : Cx) : FitD c vw1 fns2 tabD := fun ε n ε' G G' => by kernel_rfl
theorem tabs_uni : ∀ v ∈ tabs02, ∀ v' ∈ tabs02, v'.P = v.P → v' = v := by
  intro v hv v' hv' h
  simp only [tabs02, List.mem_cons, List.not_mem_nil, or_false] at hv hv'
  rcases hv with rfl | rfl <;> rcases hv' with rfl | rfl <;> first | rfl | (exact absurd h (by decide))
theorem math02 (ns : List Int) (h : ns.length ≤ 63) : ∃ ρ', evSs ⟨run fns2 glob0 flagTab0 120, glob0, flagTab0⟩ tm_law2 (startL [.list (ns.map V.int)] (nm_law.length - 1)) = some (.ret (.bool true), ρ') := law_ev2 h (N := 120) (by decide)
theorem hands02 {prog : Program} {w : World} {s₁ : Shared} {mg mb : Str → Option Value} {hT : TabsAt (tabsOf tabs02) s₁.heap} {g : s₁.heap.Ns mainGlobals mg} {b : s₁.heap.Ns builtinsNs mb} {nl : s₁.heap.NoLimit} {loose : List Str} {mean : ExcName → Option Value} (T : Top vw1 loose mean mg mb s₁.heap) (H : HandsAt qs1 s₁.heap) :
  ∀ x m q, (x, FnX.hand m q) ∈ fns2 → HandOk (mkCx prog w s₁ tabs02 mg mb hT g b nl) vw1 fns2 x m q := by
  intro x m q hm
  obtain ⟨K, X, e⟩ := H.code
  have H := hands_of (prog := prog) (w := w) (hT := hT) (g := g) (bb := b) (nl := nl) (fs := fns2) (t := tabI) (u := tabD) T X (ck_i2d _) (ck_d2i _) (.head _) (.tail _ (.head _)) tabs_uni rfl rfl (e _ (.head _)) (e _ (.tail _ (.head _)))
  have key : ∀ e ∈ fns2, ∀ m q, e.2 = FnX.hand m q → HandOk (mkCx prog w s₁ tabs02 mg mb hT g b nl) vw1 fns2 e.1 m q := by
    repeat refine List.forall_mem_cons.mpr ⟨by intro m q h; cases h <;> first | exact H.1 | exact H.2, ?_⟩
    exact fun _ h => nomatch h
  exact key _ hm m q rfl
theorem pairs_prog {p q : Program} {w : World} : ∀ {es : List DictEntry} {kvs}, Pairs (intKind p w) es kvs → Pairs (intKind q w) es kvs := by
  intro es kvs h
  induction h with
  | nil => exact .nil
  | cons a b _ ih => exact .cons a b ih
theorem intTab_prog {p q : Program} {w : World} (h : Heap) (d : Addr) (D : List (PyData × PyData)) (x : IntTab p w h d D) : IntTab q w h d D := by
  obtain ⟨lo, kvs, ⟨o, es, ep, ho, hh, hdat, ks, p, hn⟩, f⟩ := x
  exact ⟨lo, kvs, ⟨o, es, ep, ho, hh, hdat, ks, pairs_prog p, hn⟩, f⟩
end Mine
open Mine
theorem PySem.Challenge.cw_sh0026_02_holds : PySem.Challenge.rw_sh0026_02.Holds := by
  refine head1 (by w_witness2) ?_
  intro d kwd hn w s₀ s₁ mg mb G Y fa o pm cd doc dV kV ho hd hcd hD hmg hg args vals as hpre hlay hrd hwl hlo
  have hmg : mg "law" = some (.ref fa) := by rw [hn] at hmg; exact hmg
  have hT9 : TabsAt (tabsOf tabs02) s₁.heap := Y.tabs
  refine Ground.open G ?_
  intro T B D TE TW
  clear D
  wrow_args hpre hlay hrd hwl hlo
  first | refine callC_kw (enter_call ?_) | refine enter_call ?_
  w_top on
  kn_posts
  rename_i ns _ _ hlay1 _ _ _ _ _ _ _ _ _ hw _ _ _ hlen _
  obtain ⟨ρ', ev⟩ := math02 ns (by simp at hlen; omega)
  refine law_join2 (prog := PySem.Challenge.rw_sh0026_02.row.prog) (ts := tabs02) T B hT9 hg intTab_prog ck_free ck_zde ck_rf ck_c0 ck_c1 ck_tab ck_all (fits2 _) ck_law (fit_law _) (hands02 T Y) hmg hw ev ?_ ?_
  · intro a x; first | rfl | with_unfolding_all rfl
  · intro as; first | rfl | with_unfolding_all rfl | simp
