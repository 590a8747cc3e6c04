import JvmDerived
import JvmDerived.Pilot.@@N@@Statement
import JvmDerived.Pilot.@@N@@Code
set_option linter.unusedVariables false
set_option linter.unusedSimpArgs false
@@BLOCK:HandJ.lean.txt@@
@@BLOCK:SymMore.lean.txt@@
namespace Jvm.Pilot.@@N@@
open Jvm Jvm.ClassFile Sem Op Lib Jvm.Free Jvm.Stand Jvm.LawKit Jvm.RoadKit Bundle Jvm.Pilot.@@N@@.Jvm.D
section OwnBase
abbrev Ent : Type := Addr × (Cell → Prop)
/-- what is known of the heap h: O, the objects that the law has made and still writes; P, those that nobody writes any more -/
def Lay (Z : State) (EL : List (String × Nat)) (vm : Vm) (h : Heap) (O P : List Ent) : Prop :=
  (∀ (i : Nat) (x : Ent), O[i]? = some x → (∃ c, h[x.1]? = some c ∧ x.2 c) ∧ Z.heap.size ≤ x.1 ∧ Safe Z EL vm h x.1) ∧
  (∀ (i j : Nat) (x y : Ent), O[i]? = some x → O[j]? = some y → x.1 = y.1 → i = j) ∧
  (∀ y ∈ P, (∃ c, h[y.1]? = some c ∧ y.2 c) ∧ ∀ (i : Nat) (x : Ent), O[i]? = some x → x.1 ≠ y.1)
section LayLaws
variable {Z : State} {EL : List (String × Nat)} {vm vm' : Vm} {h h' : Heap} {O P : List Ent} {a : Addr} {φ ψ : Cell → Prop} {i : Nat}
theorem Lay.nil (E : ∀ y ∈ P, ∃ c, h[y.1]? = some c ∧ y.2 c) : Lay Z EL vm h [] P := ⟨fun i x q => (by simp at q), fun i j x y q => (by simp at q), fun y q => ⟨E y q, fun i x q => (by simp at q)⟩⟩
theorem Lay.lt (L : Lay Z EL vm h O P) {x : Ent} (hi : O[i]? = some x) : x.1 < h.size := by
  obtain ⟨⟨c, q, -⟩, -⟩ := L.1 i x hi; exact (Array.getElem?_eq_some_iff.mp q).1
theorem Lay.mono (A : CHr Z EL vm h vm' h') (E : Ext h h') (L : Lay Z EL vm h O P) : Lay Z EL vm' h' O P := by
  refine ⟨fun i x q => ?_, L.2.1, fun y q => ?_⟩
  · obtain ⟨⟨c, q1, q2⟩, q3, q4⟩ := L.1 i x q
    exact ⟨⟨c, E.2 _ _ q1, q2⟩, q3, A.safe (Array.getElem?_eq_some_iff.mp q1).1 q4⟩
  · obtain ⟨⟨c, q1, q2⟩, q3⟩ := L.2.2 y q
    exact ⟨⟨c, E.2 _ _ q1, q2⟩, q3⟩
theorem Lay.new (L : Lay Z EL vm h O P) (hc : ∃ c, h[a]? = some c ∧ φ c) (hz : Z.heap.size ≤ a) (S : Safe Z EL vm h a) (f1 : ∀ (i : Nat) (x : Ent), O[i]? = some x → x.1 ≠ a) (f2 : ∀ y ∈ P, y.1 ≠ a) : Lay Z EL vm h ((a, φ) :: O) P := by
  refine ⟨fun i x q => ?_, fun i j x y q r e => ?_, fun y q => ⟨(L.2.2 y q).1, fun i x r => ?_⟩⟩
  · cases i with
    | zero => simp at q; subst q; exact ⟨hc, hz, S⟩
    | succ i => exact L.1 i x (by simpa using q)
  · cases i with
    | zero =>
      simp at q; subst q
      cases j with
      | zero => rfl
      | succ j => exact absurd e.symm (f1 j y (by simpa using r))
    | succ i =>
      cases j with
      | zero => simp at r; subst r; exact absurd e (f1 i x (by simpa using q))
      | succ j => exact congrArg _ (L.2.1 i j x y (by simpa using q) (by simpa using r) e)
  · cases i with
    | zero => simp at r; subst r; exact fun z => f2 y q z.symm
    | succ i => exact (L.2.2 y q).2 i x (by simpa using r)
theorem own_set_get {O : List Ent} {x y : Ent} {j : Nat} (hi : O[i]? = some x) (q : (O.set i y)[j]? = some a') : (j = i ∧ a' = y) ∨ (j ≠ i ∧ O[j]? = some a') := by
  by_cases e : j = i
  · subst e
    have := (List.getElem?_eq_some_iff.mp hi).1
    simp [this] at q
    exact Or.inl ⟨rfl, q.symm⟩
  · rw [List.getElem?_set_ne (fun z => e z.symm)] at q
    exact Or.inr ⟨e, q⟩
/-- one owned cell is written (or anything else happens to it) -/
theorem Lay.keep1 (L : Lay Z EL vm h O P) (A : CHr Z EL vm h vm' h') (K : Keep h h' [a]) (hi : O[i]? = some (a, φ)) (hψ : ∃ c, h'[a]? = some c ∧ ψ c) : Lay Z EL vm' h' (O.set i (a, ψ)) P := by
  have st : ∀ (x : Addr) (c : Cell), h[x]? = some c → x ≠ a → h'[x]? = some c := fun x c q r => K.2.1 x c q (by simpa using r)
  refine ⟨fun j x q => ?_, fun j j' x y q r e => ?_, fun y q => ?_⟩
  · rcases own_set_get hi q with ⟨rfl, rfl⟩ | ⟨ne, q⟩
    · obtain ⟨⟨c, q1, q2⟩, q3, q4⟩ := L.1 _ _ hi
      exact ⟨hψ, q3, A.safe (Array.getElem?_eq_some_iff.mp q1).1 q4⟩
    · obtain ⟨⟨c, q1, q2⟩, q3, q4⟩ := L.1 _ _ q
      exact ⟨⟨c, st _ _ q1 (fun z => ne (L.2.1 _ _ _ _ q hi z)), q2⟩, q3, A.safe (Array.getElem?_eq_some_iff.mp q1).1 q4⟩
  · rcases own_set_get hi q with ⟨e1, e2⟩ | ⟨ne, q'⟩ <;> rcases own_set_get hi r with ⟨e3, e4⟩ | ⟨ne', r'⟩
    · rw [e1, e3]
    · rw [e2] at e; exact absurd (L.2.1 _ _ _ _ r' hi e.symm) ne'
    · rw [e4] at e; exact absurd (L.2.1 _ _ _ _ q' hi e) ne
    · exact L.2.1 _ _ _ _ q' r' e
  · obtain ⟨⟨c, q1, q2⟩, q3⟩ := L.2.2 y q
    refine ⟨⟨c, st _ _ q1 (fun z => q3 _ _ hi z.symm), q2⟩, fun j x r => ?_⟩
    rcases own_set_get hi r with ⟨rfl, rfl⟩ | ⟨-, r⟩
    · exact fun z => q3 _ _ hi z
    · exact q3 _ _ r
theorem Lay.weak (L : Lay Z EL vm h O P) (hi : O[i]? = some (a, φ)) (w : ∀ c, φ c → ψ c) : Lay Z EL vm h (O.set i (a, ψ)) P := by
  refine ⟨fun j x q => ?_, fun j j' x y q r e => ?_, fun y q => ⟨(L.2.2 y q).1, fun j x r => ?_⟩⟩
  · rcases own_set_get hi q with ⟨rfl, rfl⟩ | ⟨ne, q⟩
    · obtain ⟨⟨c, q1, q2⟩, q3, q4⟩ := L.1 _ _ hi
      exact ⟨⟨c, q1, w c q2⟩, q3, q4⟩
    · exact L.1 _ _ q
  · rcases own_set_get hi q with ⟨e1, e2⟩ | ⟨ne, q'⟩ <;> rcases own_set_get hi r with ⟨e3, e4⟩ | ⟨ne', r'⟩
    · rw [e1, e3]
    · rw [e2] at e; exact absurd (L.2.1 _ _ _ _ r' hi e.symm) ne'
    · rw [e4] at e; exact absurd (L.2.1 _ _ _ _ q' hi e) ne
    · exact L.2.1 _ _ _ _ q' r' e
  · rcases own_set_get hi r with ⟨rfl, rfl⟩ | ⟨-, r⟩
    · exact fun z => (L.2.2 y q).2 _ _ hi z
    · exact (L.2.2 y q).2 _ _ r
theorem own_erase_get {O : List Ent} {x : Ent} {j : Nat} (q : (O.eraseIdx i)[j]? = some x) : (j < i ∧ O[j]? = some x) ∨ (i ≤ j ∧ O[j + 1]? = some x) := by
  rw [List.getElem?_eraseIdx] at q
  split at q
  · exact Or.inl ⟨by assumption, q⟩
  · exact Or.inr ⟨by omega, q⟩
/-- an owned object is given up: nobody writes it any more -/
theorem Lay.share (L : Lay Z EL vm h O P) (hi : O[i]? = some (a, φ)) : Lay Z EL vm h (O.eraseIdx i) ((a, φ) :: P) := by
  refine ⟨fun j x q => ?_, fun j j' x y q r e => ?_, fun y q => ?_⟩
  · rcases own_erase_get q with ⟨-, q⟩ | ⟨-, q⟩ <;> exact L.1 _ _ q
  · rcases own_erase_get q with ⟨b, q⟩ | ⟨b, q⟩ <;> rcases own_erase_get r with ⟨b', r⟩ | ⟨b', r⟩ <;> have := L.2.1 _ _ _ _ q r e <;> omega
  · have ers : ∀ (P' : Ent → Prop), (∀ j x, O[j]? = some x → j ≠ i → P' x) → ∀ j x, (O.eraseIdx i)[j]? = some x → P' x := fun P' w j x r => by
      rcases own_erase_get r with ⟨b, r⟩ | ⟨b, r⟩
      · exact w _ _ r (by omega)
      · exact w _ _ r (by omega)
    rcases List.mem_cons.mp q with rfl | q
    · exact ⟨(L.1 _ _ hi).1, ers _ fun j x r ne z => ne (L.2.1 _ _ _ _ r hi z)⟩
    · exact ⟨(L.2.2 y q).1, ers _ fun j x r _ => (L.2.2 y q).2 _ _ r⟩
/-- an owned object is forgotten -/
theorem Lay.drop (L : Lay Z EL vm h O P) (i : Nat) : Lay Z EL vm h (O.eraseIdx i) P := by
  refine ⟨fun j x q => ?_, fun j j' x y q r e => ?_, fun y q => ⟨(L.2.2 y q).1, fun j x r => ?_⟩⟩
  · rcases own_erase_get q with ⟨-, q⟩ | ⟨-, q⟩ <;> exact L.1 _ _ q
  · rcases own_erase_get q with ⟨b, q⟩ | ⟨b, q⟩ <;> rcases own_erase_get r with ⟨b', r⟩ | ⟨b', r⟩ <;> have := L.2.1 _ _ _ _ q r e <;> omega
  · rcases own_erase_get r with ⟨-, r⟩ | ⟨-, r⟩ <;> exact (L.2.2 y q).2 _ _ r
theorem Lay.sub (L : Lay Z EL vm h O P) {P' : List Ent} (hs : ∀ y ∈ P', y ∈ P) : Lay Z EL vm h O P' := ⟨L.1, L.2.1, fun y q => L.2.2 y (hs y q)⟩
theorem Lay.ro (L : Lay Z EL vm h O P) (hc : ∃ c, h[a]? = some c ∧ φ c) (hn : ∀ (i : Nat) (x : Ent), O[i]? = some x → x.1 ≠ a) : Lay Z EL vm h O ((a, φ) :: P) :=
  ⟨L.1, L.2.1, fun y q => by
    rcases List.mem_cons.mp q with rfl | q
    · exact ⟨hc, hn⟩
    · exact L.2.2 y q⟩
end LayLaws
/-! what a cell holds -/
def ExaC (Z : State) (C : String) (c : Cell) : Prop := ∃ kk : Class, Z.vm.findClass C = some c.cls ∧ Z.vm.classes[c.cls]? = some kk ∧ c.vm.isStatics = false ∧ (kk.kind = .ordinary → c.slots.size = kk.instanceTypes.size)
def FldC (Z : State) (C n d : String) (v : Value) (c : Cell) : Prop := ∃ (cf : ClassId) (kk : Class) (i : Nat) (f : Field), Z.fieldFound? C n d = some (cf, kk, i, f) ∧ f.isStatic = false ∧ c.vm ≠ .unknown ∧ c.vm.isStatics = false ∧ Z.vm.assignable c.cls cf = true ∧ c.slots[f.slot]? = some v
abbrev Shape : Type := List (String × String × String)
/-- an object of exactly the class C whose fields sh hold vs -/
def ObjC (Z : State) (C : String) (sh : Shape) (vs : List Value) (c : Cell) : Prop := ExaC Z C c ∧ ∀ (i : Nat) (f : String × String × String) (v : Value), sh[i]? = some f → vs[i]? = some v → FldC Z f.1 f.2.1 f.2.2 v c
/-- an array of ty whose components are vs -/
def ArrC (Z : State) (ty : FieldType) (vs : List Value) (c : Cell) : Prop := Z.isArrayOf c ty ∧ c.vm ≠ .unknown ∧ c.slots.toList = vs ∧ (∀ v ∈ vs, fits ty v = true) ∧ vs.length < 2 ^ 31
/-- the shape's fields are laid, their names differ -/
def ShOk (Z : State) (a0 : Array Value) (C : String) (sh : Shape) : Prop := ∀ (i : Nat) (f : String × String × String), sh[i]? = some f → Laid Z a0 C f.1 f.2.1 f.2.2 ∧ ∃ t, parseFieldDescriptor f.2.2 = some t
section CellLaws
variable {Z : State} {a0 : Array Value} {h h' : Heap} {a : Addr} {C O n d : String} {v w : Value} {c : Cell} {sh : Shape} {vs : List Value} {i : Nat} {ty : FieldType}
theorem ExaC.exa (q : h[a]? = some c) (F : ExaC Z C c) : Exa Z h a C := by obtain ⟨kk, h1, h2, h3, h4⟩ := F; exact ⟨c, kk, q, h1, h2, h3, h4⟩
theorem exaC (F : Exa Z h a C) : ∃ c, h[a]? = some c ∧ ExaC Z C c := by obtain ⟨c, kk, q, h1, h2, h3, h4⟩ := F; exact ⟨c, q, kk, h1, h2, h3, h4⟩
theorem FldC.fld (q : h[a]? = some c) (F : FldC Z C n d v c) : Fld Z h a C n d v := by obtain ⟨cf, kk, i, f, r⟩ := F; exact ⟨c, cf, kk, i, f, q, r⟩
theorem fldC (q : h[a]? = some c) (F : Fld Z h a C n d v) : FldC Z C n d v c := by obtain ⟨c', cf, kk, i, f, q', r⟩ := F; cases q.symm.trans q'; exact ⟨cf, kk, i, f, r⟩
theorem ObjC.get (F : ObjC Z C sh vs c) (h1 : sh[i]? = some (O, n, d)) (h2 : vs[i]? = some v) : FldC Z O n d v c := F.2 i _ v h1 h2
theorem ObjC.set (F : ObjC Z C sh vs c) (K : ShOk Z a0 C sh) (nd : (sh.map (·.2.1)).Nodup) (h1 : sh[i]? = some (O, n, d)) (W : Wr h h' a (Jvm.RoadKit.slotOf Z O n d) v) (q : h[a]? = some c) : ∃ c', h'[a]? = some c' ∧ ObjC Z C sh (vs.set i v) c' := by
  obtain ⟨c', e1, -⟩ := wr_at W q
  have E : Exa Z h' a C := (F.1.exa q).wr W
  refine ⟨c', e1, ?_, fun j f u hj hu => ?_⟩
  · obtain ⟨c'', kk, r, rest⟩ := E; cases e1.symm.trans r; exact ⟨kk, rest⟩
  · by_cases e : j = i
    · subst e
      cases h1.symm.trans hj
      have hl : j < vs.length := by
        rcases Nat.lt_or_ge j vs.length with z | z
        · exact z
        · rw [List.getElem?_eq_none (by simpa using z)] at hu; cases hu
      simp [hl] at hu; subst hu
      exact fldC e1 (Fld.same W ((F.2 j _ _ h1 (List.getElem?_eq_getElem hl)).fld q))
    · rw [List.getElem?_set_ne (fun z => e z.symm)] at hu
      have L1 := K _ _ hj
      have L2 := K _ _ h1
      obtain ⟨t1, p1⟩ := L1.2
      obtain ⟨t2, p2⟩ := L2.2
      have ne : f.2.1 ≠ n := fun z => e (by
        have a1 : (sh.map (·.2.1))[j]? = some n := by rw [List.getElem?_map, hj]; exact congrArg some z
        have a2 : (sh.map (·.2.1))[i]? = some n := by rw [List.getElem?_map, h1]; rfl
        obtain ⟨b1, b2⟩ := List.getElem?_eq_some_iff.mp a1
        obtain ⟨b3, b4⟩ := List.getElem?_eq_some_iff.mp a2
        exact (List.getElem_inj nd).mp (b2.trans b4.symm))
      exact fldC e1 (Fld.other W ((F.2 j _ _ hj hu).fld q) (Or.inr (slot_ne L1.1 L2.1 ne p1 p2)))
theorem ArrC.arr (q : h[a]? = some c) (F : ArrC Z ty vs c) : Arr Z h a c ty := ⟨q, F.1, F.2.1⟩
theorem ArrC.size (F : ArrC Z ty vs c) : c.slots.size = vs.length := by rw [← F.2.2.1]; simp
theorem ArrC.at (F : ArrC Z ty vs c) (hv : vs[i]? = some v) : c.slots[i]? = some v := by rw [← F.2.2.1] at hv; simpa using hv
theorem ArrC.set (F : ArrC Z ty vs c) (hv : fits ty v = true) (W : Wr h h' a i v) (q : h[a]? = some c) : ∃ c', h'[a]? = some c' ∧ ArrC Z ty (vs.set i v) c' := by
  refine ⟨_, (Arr.same W (F.arr q)).1, F.1, F.2.1, ?_, fun u hu => ?_, by simpa using F.2.2.2.2⟩
  · simp [Cell.setSlot, F.2.2.1]
  · rcases List.mem_or_eq_of_mem_set hu with z | z
    · exact F.2.2.2.1 u z
    · exact z ▸ hv
theorem ArrC.new {cA : ClassId} {z : Int32} (A : Arr Z h a (newA cA ty z) ty) (hz : ¬ z < 0) (hd : fits ty (defaultValue ty) = true) : ∃ c, h[a]? = some c ∧ ArrC Z ty (List.replicate z.toNatClampNeg (defaultValue ty)) c :=
  ⟨_, A.1, A.2.1, A.2.2, by simp [newA], fun v hv => by rw [List.eq_of_mem_replicate hv]; exact hd, by rw [List.length_replicate]; exact (back32 hz).2⟩
end CellLaws
/-- the walk of one body stands at T -/
def Wk (kn : Prop) (p : Program) (l : Launch) (e : Env) (R : Room) (s : State) (m : MethodId) (args : Array Value) (below : List Frame) (meth : Method) (c : Code)
    (bytes : ByteArray) (maxL : Nat) (ret : Option FieldType) (Z : State) (a0 : Array Value) (EL : List (String × Nat)) (own : String) (T : State) (O P : List Ent) (k n : Nat) : Prop :=
  (p.tables.exec = Jvm.exec ∧ c.code = bytes ∧ c.maxLocals = maxL ∧ meth.sig.returnType = ret ∧ meth.locks = false ∧ EW Z a0 EL ∧ (kn → s.vm.MethodsKnown ∧ s.vm.FramesKnown below)) ∧
  ∃ locs, Stand p l e R (s.setVm T.vm) m args below meth c T locs k n ∧ s.Since T.vm T.heap.size ∧ Z.Warmed39 T.vm ∧ T.vm.findClass own = some m.cls ∧ Fr Z.heap.size locs ∧
    CHr Z EL s.vm s.heap T.vm T.heap ∧ Ext Z.heap T.heap ∧ Lay Z EL T.vm T.heap O P
/-- from T with the frame g on top the invocation goes on to its end, where Q holds -/
def Go (p : Program) (e : Env) (below : List Frame) (s : State) (R : Room) (Z : State) (EL : List (String × Nat)) (Q : Option Value → List Ent → List Ent → Prop) (T : State) (g : JFrame) : Prop :=
  ∃ t o, Steps p.tables e below (T.setTop g) t ∧ t.status = .running ∧ Ended t below o ∧ ∃ v L, o = .returned v ∧ CHr Z EL s.vm s.heap t.vm t.heap ∧ ReturnedEndW s o t L R.cells R.slots ∧ Fr Z.heap.size L ∧ Ext Z.heap t.heap ∧ ∃ O P, Lay Z EL t.vm t.heap O P ∧ Q v O P
/-- the contract of a body: from the layout O, P, called with as', it returns some v and leaves O', P' with Q v O' P' -/
def Con (kn : Prop) (l : Launch) (Z : State) (EL : List (String × Nat)) (y : MethodName) (bytes : ByteArray) (maxL : Nat) (ret : Option FieldType) (ws : List Jvm.Cond) (rm : Room) (as' : Array Value) (O P : List Ent) (Q : Option Value → List Ent → List Ent → Prop) : Prop :=
  MetFree l y (head1 (Jvm.Cond.code y bytes maxL ret :: ws) rm) (fun a U => a = as' ∧ Z.Warmed39 U.vm ∧ CHv Z EL U.vm U.heap ∧ Ext Z.heap U.heap ∧ Lay Z EL U.vm U.heap O P) (fun _ _ bl s _ => kn → s.vm.MethodsKnown ∧ s.vm.FramesKnown bl)
    (fun _ U o U' => ∃ v L, o = .returned v ∧ CHr Z EL U.vm U.heap U'.vm U'.heap ∧ ReturnedEndW U o U' L rm.cells rm.slots ∧ Fr Z.heap.size L ∧ Ext Z.heap U'.heap ∧ ∃ O' P', Lay Z EL U'.vm U'.heap O' P' ∧ Q v O' P')
section WkLaws
variable {kn : Prop} {p : Program} {l : Launch} {e : Env} {R : Room} {s : State} {m : MethodId} {args : Array Value} {below : List Frame} {meth : Method} {c : Code} {bytes : ByteArray} {maxL : Nat} {ret : Option FieldType} {Z : State} {a0 : Array Value} {EL : List (String × Nat)} {own : String} {T T' : State} {O O' P P' : List Ent} {k n k' n' : Nat} {Q : Option Value → List Ent → List Ent → Prop}
theorem Wk.hx (W : Wk kn p l e R s m args below meth c bytes maxL ret Z a0 EL own T O P k n) : p.tables.exec = Jvm.exec := W.1.1
theorem Wk.hby (W : Wk kn p l e R s m args below meth c bytes maxL ret Z a0 EL own T O P k n) : c.code = bytes := W.1.2.1
theorem Wk.here (W : Wk kn p l e R s m args below meth c bytes maxL ret Z a0 EL own T O P k n) : At T m c below := by obtain ⟨-, locs, X, -⟩ := W; exact X.here
theorem Wk.lay (W : Wk kn p l e R s m args below meth c bytes maxL ret Z a0 EL own T O P k n) : Lay Z EL T.vm T.heap O P := by obtain ⟨-, locs, -, -, -, -, -, -, -, L⟩ := W; exact L
theorem Wk.old (W : Wk kn p l e R s m args below meth c bytes maxL ret Z a0 EL own T O P k n) : Ext Z.heap T.heap := by obtain ⟨-, locs, -, -, -, -, -, -, E, -⟩ := W; exact E
theorem Wk.chv (W : Wk kn p l e R s m args below meth c bytes maxL ret Z a0 EL own T O P k n) : CHv Z EL T.vm T.heap := by obtain ⟨-, locs, -, -, -, -, -, H, -⟩ := W; exact H.1
theorem Wk.hZ (W : Wk kn p l e R s m args below meth c bytes maxL ret Z a0 EL own T O P k n) : Z.Warmed39 T.vm := by obtain ⟨-, locs, -, -, H, -⟩ := W; exact H
/-- what is known of the i-th owned object -/
theorem Wk.ow (W : Wk kn p l e R s m args below meth c bytes maxL ret Z a0 EL own T O P k n) {i : Nat} {a : Addr} {φ : Cell → Prop} (hi : O[i]? = some (a, φ)) : ∃ c, T.heap[a]? = some c ∧ φ c := (W.lay.1 i _ hi).1
/-- .. and of one that nobody writes -/
theorem Wk.rd (W : Wk kn p l e R s m args below meth c bytes maxL ret Z a0 EL own T O P k n) {a : Addr} {φ : Cell → Prop} (hi : (a, φ) ∈ P) : ∃ c, T.heap[a]? = some c ∧ φ c := (W.lay.2.2 _ hi).1
theorem Wk.relay (W : Wk kn p l e R s m args below meth c bytes maxL ret Z a0 EL own T O P k n) (F : Lay Z EL T.vm T.heap O P → Lay Z EL T.vm T.heap O' P') : Wk kn p l e R s m args below meth c bytes maxL ret Z a0 EL own T O' P' k n := by
  obtain ⟨W1, locs, h1, h2, h3, h4, h5, h6, h7, h8⟩ := W; exact ⟨W1, locs, h1, h2, h3, h4, h5, h6, h7, F h8⟩
theorem Wk.share (W : Wk kn p l e R s m args below meth c bytes maxL ret Z a0 EL own T O P k n) {i : Nat} {a : Addr} {φ : Cell → Prop} (hi : O[i]? = some (a, φ)) : Wk kn p l e R s m args below meth c bytes maxL ret Z a0 EL own T (O.eraseIdx i) ((a, φ) :: P) k n := W.relay fun L => L.share hi
theorem Wk.drop (W : Wk kn p l e R s m args below meth c bytes maxL ret Z a0 EL own T O P k n) (i : Nat) : Wk kn p l e R s m args below meth c bytes maxL ret Z a0 EL own T (O.eraseIdx i) P k n := W.relay fun L => L.drop i
theorem Wk.weak (W : Wk kn p l e R s m args below meth c bytes maxL ret Z a0 EL own T O P k n) {i : Nat} {a : Addr} {φ ψ : Cell → Prop} (hi : O[i]? = some (a, φ)) (w : ∀ c, φ c → ψ c) : Wk kn p l e R s m args below meth c bytes maxL ret Z a0 EL own T (O.set i (a, ψ)) P k n := W.relay fun L => L.weak hi w
theorem Wk.fewer (W : Wk kn p l e R s m args below meth c bytes maxL ret Z a0 EL own T O P k n) (hk : k ≤ k') (hn : n ≤ n') : Wk kn p l e R s m args below meth c bytes maxL ret Z a0 EL own T O P k' n' := by
  obtain ⟨W1, locs, h1, r⟩ := W; exact ⟨W1, locs, h1.mono hk hn, r⟩
theorem own_since {s : State} {vm : Vm} {k1 k2 : Nat} (h : s.Since vm k1) (hk : k1 ≤ k2) : s.Since vm k2 := ⟨h.1, fun j p a b => ⟨(h.2 j p a b).1, Nat.lt_of_lt_of_le (h.2 j p a b).2 hk⟩⟩
/-- the general step -/
theorem Wk.core {locs' : List Loc} (W : Wk kn p l e R s m args below meth c bytes maxL ret Z a0 EL own T O P k n) (X : Stand p l e R (s.setVm T'.vm) m args below meth c T' locs' k' n') (hS : s.Since T'.vm T'.heap.size) (hZ' : Z.Warmed39 T'.vm) (hf : T'.vm.findClass own = some m.cls)
    (N : Fr Z.heap.size locs') (A : CHr Z EL T.vm T.heap T'.vm T'.heap) (E : Ext Z.heap T'.heap) (L : Lay Z EL T'.vm T'.heap O' P') : Wk kn p l e R s m args below meth c bytes maxL ret Z a0 EL own T' O' P' k' n' := by
  obtain ⟨W1, locs, -, h2, h3, h4, -, h6, -, -⟩ := W
  exact ⟨W1, locs', X, hS, hZ', hf, N, h6.trans A, E, L⟩
theorem Wk.coreS {locs' : List Loc} (W : Wk kn p l e R s m args below meth c bytes maxL ret Z a0 EL own T O P k n) (X : Stand p l e R (s.setVm T'.vm) m args below meth c T' locs' k' n') (hS : (s.setVm T.vm).Since T'.vm T'.heap.size) (hle : T.heap.size ≤ T'.heap.size)
    (N : Fr Z.heap.size locs') (A : CHr Z EL T.vm T.heap T'.vm T'.heap) (E : Ext Z.heap T'.heap) (L : Lay Z EL T'.vm T'.heap O' P') : Wk kn p l e R s m args below meth c bytes maxL ret Z a0 EL own T' O' P' k' n' := by
  obtain ⟨W1, locs, -, h2, h3, h4, -, h6, -, -⟩ := id W
  exact W.core X (h2.trans hS hle) (State.Warmed39.trans (t := s.setVm T.vm) h3 hS.1) (by rw [hS.1.alike.findClass]; exact h4) N A E L
/-- .. where the tables only warm -/
theorem Wk.warm {locs' : List Loc} (W : Wk kn p l e R s m args below meth c bytes maxL ret Z a0 EL own T O P k n) (X : Stand p l e R (s.setVm T.vm) m args below meth c T' locs' k' n') (hle : T.heap.size ≤ T'.heap.size)
    (N : Fr Z.heap.size locs') (A : CHr Z EL T'.vm T.heap T'.vm T'.heap) (E : Ext Z.heap T'.heap) (L : Lay Z EL T'.vm T.heap O P → Lay Z EL T'.vm T'.heap O' P') : Wk kn p l e R s m args below meth c bytes maxL ret Z a0 EL own T' O' P' k' n' := by
  have B : CHr Z EL T.vm T.heap T'.vm T.heap := CHv.at X W.hZ W.1.2.2.2.2.2.1 W.chv
  exact W.coreS (X.retabled X.warmed.wide) (X.warmed.since _) hle N (B.trans A) E (L (W.lay.mono B ⟨Nat.le_refl _, fun _ _ q => q⟩))
theorem Wk.chv' {locs' : List Loc} (W : Wk kn p l e R s m args below meth c bytes maxL ret Z a0 EL own T O P k n) (X : Stand p l e R (s.setVm T.vm) m args below meth c T' locs' k' n') : CHv Z EL T'.vm T.heap := (CHv.at X W.hZ W.1.2.2.2.2.2.1 W.chv).1
/-- the tables warm, the heap is what it was -/
theorem Wk.same {locs' : List Loc} (W : Wk kn p l e R s m args below meth c bytes maxL ret Z a0 EL own T O P k n) (X : Stand p l e R (s.setVm T.vm) m args below meth c T' locs' k' n') (hh : T'.heap = T.heap) (N : Fr Z.heap.size locs') : Wk kn p l e R s m args below meth c bytes maxL ret Z a0 EL own T' O P k' n' :=
  W.warm X (by rw [hh]; exact Nat.le_refl _) N (by rw [hh]; exact CHr.refl (W.chv' X)) (by rw [hh]; exact W.old) (fun L => by rw [hh]; exact L)
/-- a new cell -/
theorem Wk.made {locs' : List Loc} (W : Wk kn p l e R s m args below meth c bytes maxL ret Z a0 EL own T O P k n) (X : Stand p l e R (s.setVm T.vm) m args below meth c T' locs' k' n') (E : Ext T.heap T'.heap) (N : Fr Z.heap.size locs') {φ : Cell → Prop} (hc : ∃ c, T'.heap[T.heap.size]? = some c ∧ φ c) :
    Wk kn p l e R s m args below meth c bytes maxL ret Z a0 EL own T' ((T.heap.size, φ) :: O) P k' n' := by
  have H := W.chv' X
  have A : CHr Z EL T'.vm T.heap T'.vm T'.heap := CHr.ext E H
  have hs : Safe Z EL T'.vm T'.heap T.heap.size := Safe.ext E H (Safe.new (Nat.le_refl _))
  refine W.warm X E.1 N A ⟨Nat.le_trans W.old.1 E.1, fun a c q => E.2 _ _ (W.old.2 _ _ q)⟩ fun L => (L.mono A E).new hc W.old.1 hs (fun i x q z => ?_) (fun y q z => ?_)
  · exact absurd z (Nat.ne_of_lt (L.lt q))
  · obtain ⟨⟨c, q1, -⟩, -⟩ := L.2.2 y q
    exact absurd z (Nat.ne_of_lt (Array.getElem?_eq_some_iff.mp q1).1)
/-- one owned cell changes -/
theorem Wk.wrote {locs' : List Loc} (W : Wk kn p l e R s m args below meth c bytes maxL ret Z a0 EL own T O P k n) (X : Stand p l e R (s.setVm T.vm) m args below meth c T' locs' k' n') {a : Addr} {i : Nat} {φ ψ : Cell → Prop} (hi : O[i]? = some (a, φ)) (K : Keep T.heap T'.heap [a]) (N : Fr Z.heap.size locs') (hc : ∃ c, T'.heap[a]? = some c ∧ ψ c) :
    Wk kn p l e R s m args below meth c bytes maxL ret Z a0 EL own T' (O.set i (a, ψ)) P k' n' := by
  have H := W.chv' X
  have B : CHr Z EL T.vm T.heap T'.vm T.heap := CHv.at X W.hZ W.1.2.2.2.2.2.1 W.chv
  have hs := (W.lay.mono B ⟨Nat.le_refl _, fun _ _ q => q⟩).1 i _ hi
  have A : CHr Z EL T'.vm T.heap T'.vm T'.heap := CHr.keep K (sfS hs.2.2 sf0) H
  have E := W.old
  refine W.warm X K.1 N A ⟨Nat.le_trans E.1 K.1, fun b c q => K.2.1 _ _ (E.2 _ _ q) fun z => ?_⟩ fun L => L.keep1 A K hi hc
  cases List.mem_singleton.mp z
  have := (Array.getElem?_eq_some_iff.mp q).1
  have := hs.2.1
  omega
theorem Wk.fr (W : Wk kn p l e R s m args below meth c bytes maxL ret Z a0 EL own T O P k n) {i : Nat} {a : Addr} {φ : Cell → Prop} (hi : O[i]? = some (a, φ)) : Z.heap.size ≤ a := (W.lay.1 i _ hi).2.1
theorem Wk.ne (W : Wk kn p l e R s m args below meth c bytes maxL ret Z a0 EL own T O P k n) {i : Nat} {a b : Addr} {φ ψ : Cell → Prop} (hi : O[i]? = some (a, φ)) (hb : (b, ψ) ∈ P) : a ≠ b := (W.lay.2.2 _ hb).2 i _ hi
end WkLaws
end OwnBase
section OwnSteps
variable {kn : Prop} {p : Program} {l : Launch} {e : Env} {R : Room} {s : State} {m : MethodId} {args : Array Value} {below : List Frame} {meth : Method} {c : Code} {bytes : ByteArray} {maxL : Nat} {ret : Option FieldType} {Z : State} {a0 : Array Value} {EL : List (String × Nat)} {own : String} {T T' : State} {O O' P P' : List Ent} {k n k' n' : Nat} {Q : Option Value → List Ent → List Ent → Prop} {g g' : JFrame} {pc q : Nat} {L : Array Slot} {S : List Value}
theorem Go.step (h : ∀ t, Steps p.tables e below (T'.setTop g') t → Steps p.tables e below (T.setTop g) t) (K : Go p e below s R Z EL Q T' g') : Go p e below s R Z EL Q T g := by
  obtain ⟨t, o, h1, r⟩ := K; exact ⟨t, o, h _ h1, r⟩
theorem Go.back (h : Steps p.tables e below (T.setTop g) (T'.setTop g')) (K : Go p e below s R Z EL Q T' g') : Go p e below s R Z EL Q T g := K.step fun _ hr => h.trans hr
theorem g_iloadN (W : Wk kn p l e R s m args below meth c bytes maxL ret Z a0 EL own T O P k n) {j : Fin 4} {x : Int32} (hd : decode bytes pc = .ok (.iload_n j, 1)) (hl : L[j.val]? = some (.val (.int x))) (hq : pc + 1 = q) (K : Go p e below s R Z EL Q T (mkF m q L (.int x :: S))) : Go p e below s R Z EL Q T (mkF m pc L S) := by subst hq; exact K.step fun t hr => XS.iloadN W.here W.hx rfl (hb W.hby hd) hl hr
theorem g_iload (W : Wk kn p l e R s m args below meth c bytes maxL ret Z a0 EL own T O P k n) {j : Nat} {x : Int32} (hd : decode bytes pc = .ok (.iload j, 2)) (hl : L[j]? = some (.val (.int x))) (hq : pc + 2 = q) (K : Go p e below s R Z EL Q T (mkF m q L (.int x :: S))) : Go p e below s R Z EL Q T (mkF m pc L S) := by subst hq; exact K.step fun t hr => XS.iload W.here W.hx rfl (hb W.hby hd) hl hr
theorem g_lloadN (W : Wk kn p l e R s m args below meth c bytes maxL ret Z a0 EL own T O P k n) {j : Fin 4} {x : Int64} (hd : decode bytes pc = .ok (.lload_n j, 1)) (hl : L[j.val]? = some (.val (.long x))) (hq : pc + 1 = q) (K : Go p e below s R Z EL Q T (mkF m q L (.long x :: S))) : Go p e below s R Z EL Q T (mkF m pc L S) := by subst hq; exact K.step fun t hr => XT.lloadN W.here W.hx rfl (hb W.hby hd) hl hr
theorem g_lload (W : Wk kn p l e R s m args below meth c bytes maxL ret Z a0 EL own T O P k n) {j : Nat} {x : Int64} (hd : decode bytes pc = .ok (.lload j, 2)) (hl : L[j]? = some (.val (.long x))) (hq : pc + 2 = q) (K : Go p e below s R Z EL Q T (mkF m q L (.long x :: S))) : Go p e below s R Z EL Q T (mkF m pc L S) := by subst hq; exact K.step fun t hr => XT.lload W.here W.hx rfl (hb W.hby hd) hl hr
theorem g_aloadN (W : Wk kn p l e R s m args below meth c bytes maxL ret Z a0 EL own T O P k n) {j : Fin 4} {x : Value} (hd : decode bytes pc = .ok (.aload_n j, 1)) (hl : L[j.val]? = some (.val x)) (hv : x.isRef = true) (hq : pc + 1 = q) (K : Go p e below s R Z EL Q T (mkF m q L (x :: S))) : Go p e below s R Z EL Q T (mkF m pc L S) := by subst hq; exact K.step fun t hr => XS.aloadN W.here W.hx rfl (hb W.hby hd) hl hv hr
theorem g_aload (W : Wk kn p l e R s m args below meth c bytes maxL ret Z a0 EL own T O P k n) {j : Nat} {x : Value} (hd : decode bytes pc = .ok (.aload j, 2)) (hl : L[j]? = some (.val x)) (hv : x.isRef = true) (hq : pc + 2 = q) (K : Go p e below s R Z EL Q T (mkF m q L (x :: S))) : Go p e below s R Z EL Q T (mkF m pc L S) := by subst hq; exact K.step fun t hr => XS.aload W.here W.hx rfl (hb W.hby hd) hl hv hr
theorem g_istoreN (W : Wk kn p l e R s m args below meth c bytes maxL ret Z a0 EL own T O P k n) {j : Fin 4} {x : Int32} {L' : Array Slot} (hd : decode bytes pc = .ok (.istore_n j, 1)) (hl : storeLocals L j.val (.int x) = some L') (hq : pc + 1 = q) (K : Go p e below s R Z EL Q T (mkF m q L' S)) : Go p e below s R Z EL Q T (mkF m pc L (.int x :: S)) := by subst hq; exact K.step fun t hr => XS.istoreN W.here W.hx rfl (hb W.hby hd) rfl hl hr
theorem g_istore (W : Wk kn p l e R s m args below meth c bytes maxL ret Z a0 EL own T O P k n) {j : Nat} {x : Int32} {L' : Array Slot} (hd : decode bytes pc = .ok (.istore j, 2)) (hl : storeLocals L j (.int x) = some L') (hq : pc + 2 = q) (K : Go p e below s R Z EL Q T (mkF m q L' S)) : Go p e below s R Z EL Q T (mkF m pc L (.int x :: S)) := by subst hq; exact K.step fun t hr => XS.istore W.here W.hx rfl (hb W.hby hd) rfl hl hr
theorem g_lstoreN (W : Wk kn p l e R s m args below meth c bytes maxL ret Z a0 EL own T O P k n) {j : Fin 4} {x : Int64} {L' : Array Slot} (hd : decode bytes pc = .ok (.lstore_n j, 1)) (hl : storeLocals L j.val (.long x) = some L') (hq : pc + 1 = q) (K : Go p e below s R Z EL Q T (mkF m q L' S)) : Go p e below s R Z EL Q T (mkF m pc L (.long x :: S)) := by subst hq; exact K.step fun t hr => XT.lstoreN W.here W.hx rfl (hb W.hby hd) rfl hl hr
theorem g_lstore (W : Wk kn p l e R s m args below meth c bytes maxL ret Z a0 EL own T O P k n) {j : Nat} {x : Int64} {L' : Array Slot} (hd : decode bytes pc = .ok (.lstore j, 2)) (hl : storeLocals L j (.long x) = some L') (hq : pc + 2 = q) (K : Go p e below s R Z EL Q T (mkF m q L' S)) : Go p e below s R Z EL Q T (mkF m pc L (.long x :: S)) := by subst hq; exact K.step fun t hr => XT.lstore W.here W.hx rfl (hb W.hby hd) rfl hl hr
theorem g_astoreN (W : Wk kn p l e R s m args below meth c bytes maxL ret Z a0 EL own T O P k n) {j : Fin 4} {x : Value} {L' : Array Slot} (hd : decode bytes pc = .ok (.astore_n j, 1)) (hv : x.isRef = true) (hl : storeLocals L j.val x = some L') (hq : pc + 1 = q) (K : Go p e below s R Z EL Q T (mkF m q L' S)) : Go p e below s R Z EL Q T (mkF m pc L (x :: S)) := by subst hq; exact K.step fun t hr => XS.astoreN W.here W.hx rfl (hb W.hby hd) rfl hv hl hr
theorem g_astore (W : Wk kn p l e R s m args below meth c bytes maxL ret Z a0 EL own T O P k n) {j : Nat} {x : Value} {L' : Array Slot} (hd : decode bytes pc = .ok (.astore j, 2)) (hv : x.isRef = true) (hl : storeLocals L j x = some L') (hq : pc + 2 = q) (K : Go p e below s R Z EL Q T (mkF m q L' S)) : Go p e below s R Z EL Q T (mkF m pc L (x :: S)) := by subst hq; exact K.step fun t hr => XS.astore W.here W.hx rfl (hb W.hby hd) rfl hv hl hr
theorem g_iconst (W : Wk kn p l e R s m args below meth c bytes maxL ret Z a0 EL own T O P k n) {i : Int} {v : Int32} (hd : decode bytes pc = .ok (.iconst i, 1)) (hv : Int32.ofInt i = v) (hq : pc + 1 = q) (K : Go p e below s R Z EL Q T (mkF m q L (.int v :: S))) : Go p e below s R Z EL Q T (mkF m pc L S) := by subst hq; exact K.step fun t hr => XS.iconst W.here W.hx rfl (hb W.hby hd) (hv ▸ hr)
theorem g_bipush (W : Wk kn p l e R s m args below meth c bytes maxL ret Z a0 EL own T O P k n) {i : Int} {v : Int32} (hd : decode bytes pc = .ok (.bipush i, 2)) (hv : (Int8.ofInt i).toInt32 = v) (hq : pc + 2 = q) (K : Go p e below s R Z EL Q T (mkF m q L (.int v :: S))) : Go p e below s R Z EL Q T (mkF m pc L S) := by subst hq; exact K.step fun t hr => XS.bipush W.here W.hx rfl (hb W.hby hd) (hv ▸ hr)
theorem g_sipush (W : Wk kn p l e R s m args below meth c bytes maxL ret Z a0 EL own T O P k n) {i : Int} {v : Int32} (hd : decode bytes pc = .ok (.sipush i, 3)) (hv : (Int16.ofInt i).toInt32 = v) (hq : pc + 3 = q) (K : Go p e below s R Z EL Q T (mkF m q L (.int v :: S))) : Go p e below s R Z EL Q T (mkF m pc L S) := by subst hq; exact K.step fun t hr => XS.sipush W.here W.hx rfl (hb W.hby hd) (hv ▸ hr)
theorem g_lconst (W : Wk kn p l e R s m args below meth c bytes maxL ret Z a0 EL own T O P k n) {i : Fin 2} {v : Int64} (hd : decode bytes pc = .ok (.lconst i, 1)) (hv : Int64.ofNat i = v) (hq : pc + 1 = q) (K : Go p e below s R Z EL Q T (mkF m q L (.long v :: S))) : Go p e below s R Z EL Q T (mkF m pc L S) := by subst hq; exact K.step fun t hr => XT.lconst W.here W.hx rfl (hb W.hby hd) (hv ▸ hr)
theorem g_null (W : Wk kn p l e R s m args below meth c bytes maxL ret Z a0 EL own T O P k n)  (hd : decode bytes pc = .ok (.aconst_null, 1))  (hq : pc + 1 = q) (K : Go p e below s R Z EL Q T (mkF m q L (.null :: S))) : Go p e below s R Z EL Q T (mkF m pc L S) := by subst hq; exact K.step fun t hr => XS.aconstNull W.here W.hx rfl (hb W.hby hd) hr
theorem g_iadd (W : Wk kn p l e R s m args below meth c bytes maxL ret Z a0 EL own T O P k n) {x y z : Int32} (hd : decode bytes pc = .ok (.iadd, 1)) (hz : x + y = z) (hq : pc + 1 = q) (K : Go p e below s R Z EL Q T (mkF m q L (.int z :: S))) : Go p e below s R Z EL Q T (mkF m pc L (.int y :: .int x :: S)) := by subst hq; exact K.step fun t hr => XS.iadd W.here W.hx rfl (hb W.hby hd) rfl (hz ▸ hr)
theorem g_isub (W : Wk kn p l e R s m args below meth c bytes maxL ret Z a0 EL own T O P k n) {x y z : Int32} (hd : decode bytes pc = .ok (.isub, 1)) (hz : x - y = z) (hq : pc + 1 = q) (K : Go p e below s R Z EL Q T (mkF m q L (.int z :: S))) : Go p e below s R Z EL Q T (mkF m pc L (.int y :: .int x :: S)) := by subst hq; exact K.step fun t hr => XS.isub W.here W.hx rfl (hb W.hby hd) rfl (hz ▸ hr)
theorem g_iand (W : Wk kn p l e R s m args below meth c bytes maxL ret Z a0 EL own T O P k n) {x y z : Int32} (hd : decode bytes pc = .ok (.iand, 1)) (hz : x &&& y = z) (hq : pc + 1 = q) (K : Go p e below s R Z EL Q T (mkF m q L (.int z :: S))) : Go p e below s R Z EL Q T (mkF m pc L (.int y :: .int x :: S)) := by subst hq; exact K.step fun t hr => XS.iand W.here W.hx rfl (hb W.hby hd) rfl (hz ▸ hr)
theorem g_imul (W : Wk kn p l e R s m args below meth c bytes maxL ret Z a0 EL own T O P k n) {x y z : Int32} (hd : decode bytes pc = .ok (.imul, 1)) (hz : x * y = z) (hq : pc + 1 = q) (K : Go p e below s R Z EL Q T (mkF m q L (.int z :: S))) : Go p e below s R Z EL Q T (mkF m pc L (.int y :: .int x :: S)) := by subst hq; exact K.step fun t hr => XS.imul W.here W.hx rfl (hb W.hby hd) rfl (hz ▸ hr)
theorem g_ixor (W : Wk kn p l e R s m args below meth c bytes maxL ret Z a0 EL own T O P k n) {x y z : Int32} (hd : decode bytes pc = .ok (.ixor, 1)) (hz : x ^^^ y = z) (hq : pc + 1 = q) (K : Go p e below s R Z EL Q T (mkF m q L (.int z :: S))) : Go p e below s R Z EL Q T (mkF m pc L (.int y :: .int x :: S)) := by subst hq; exact K.step fun t hr => XT.ixor W.here W.hx rfl (hb W.hby hd) rfl (hz ▸ hr)
theorem g_ior (W : Wk kn p l e R s m args below meth c bytes maxL ret Z a0 EL own T O P k n) {x y z : Int32} (hd : decode bytes pc = .ok (.ior, 1)) (hz : x ||| y = z) (hq : pc + 1 = q) (K : Go p e below s R Z EL Q T (mkF m q L (.int z :: S))) : Go p e below s R Z EL Q T (mkF m pc L (.int y :: .int x :: S)) := by subst hq; exact K.step fun t hr => XT.ior W.here W.hx rfl (hb W.hby hd) rfl (hz ▸ hr)
theorem g_ishl (W : Wk kn p l e R s m args below meth c bytes maxL ret Z a0 EL own T O P k n) {x y z : Int32} (hd : decode bytes pc = .ok (.ishl, 1)) (hz : x <<< (y &&& 31) = z) (hq : pc + 1 = q) (K : Go p e below s R Z EL Q T (mkF m q L (.int z :: S))) : Go p e below s R Z EL Q T (mkF m pc L (.int y :: .int x :: S)) := by subst hq; exact K.step fun t hr => XT.ishl W.here W.hx rfl (hb W.hby hd) rfl (hz ▸ hr)
theorem g_ishr (W : Wk kn p l e R s m args below meth c bytes maxL ret Z a0 EL own T O P k n) {x y z : Int32} (hd : decode bytes pc = .ok (.ishr, 1)) (hz : x >>> (y &&& 31) = z) (hq : pc + 1 = q) (K : Go p e below s R Z EL Q T (mkF m q L (.int z :: S))) : Go p e below s R Z EL Q T (mkF m pc L (.int y :: .int x :: S)) := by subst hq; exact K.step fun t hr => XT.ishr W.here W.hx rfl (hb W.hby hd) rfl (hz ▸ hr)
theorem g_iushr (W : Wk kn p l e R s m args below meth c bytes maxL ret Z a0 EL own T O P k n) {x y z : Int32} (hd : decode bytes pc = .ok (.iushr, 1)) (hz : XT.ushr x y = z) (hq : pc + 1 = q) (K : Go p e below s R Z EL Q T (mkF m q L (.int z :: S))) : Go p e below s R Z EL Q T (mkF m pc L (.int y :: .int x :: S)) := by subst hq; exact K.step fun t hr => XT.iushr W.here W.hx rfl (hb W.hby hd) rfl (hz ▸ hr)
theorem g_irem (W : Wk kn p l e R s m args below meth c bytes maxL ret Z a0 EL own T O P k n) {x y z : Int32} (hd : decode bytes pc = .ok (.irem, 1)) (hy : y ≠ 0) (hz : x % y = z) (hq : pc + 1 = q) (K : Go p e below s R Z EL Q T (mkF m q L (.int z :: S))) : Go p e below s R Z EL Q T (mkF m pc L (.int y :: .int x :: S)) := by subst hq; exact K.step fun t hr => XS.irem W.here W.hx rfl (hb W.hby hd) rfl hy (by rw [show x - x / y * y = z from (irem_eq_mod x y).trans hz]; exact hr)
theorem g_land (W : Wk kn p l e R s m args below meth c bytes maxL ret Z a0 EL own T O P k n) {x y z : Int64} (hd : decode bytes pc = .ok (.land, 1)) (hz : x &&& y = z) (hq : pc + 1 = q) (K : Go p e below s R Z EL Q T (mkF m q L (.long z :: S))) : Go p e below s R Z EL Q T (mkF m pc L (.long y :: .long x :: S)) := by subst hq; exact K.step fun t hr => XT.land W.here W.hx rfl (hb W.hby hd) rfl (hz ▸ hr)
theorem g_lor (W : Wk kn p l e R s m args below meth c bytes maxL ret Z a0 EL own T O P k n) {x y z : Int64} (hd : decode bytes pc = .ok (.lor, 1)) (hz : x ||| y = z) (hq : pc + 1 = q) (K : Go p e below s R Z EL Q T (mkF m q L (.long z :: S))) : Go p e below s R Z EL Q T (mkF m pc L (.long y :: .long x :: S)) := by subst hq; exact K.step fun t hr => XT.lor W.here W.hx rfl (hb W.hby hd) rfl (hz ▸ hr)
theorem g_ladd (W : Wk kn p l e R s m args below meth c bytes maxL ret Z a0 EL own T O P k n) {x y z : Int64} (hd : decode bytes pc = .ok (.ladd, 1)) (hz : x + y = z) (hq : pc + 1 = q) (K : Go p e below s R Z EL Q T (mkF m q L (.long z :: S))) : Go p e below s R Z EL Q T (mkF m pc L (.long y :: .long x :: S)) := by subst hq; exact K.step fun t hr => XT.ladd W.here W.hx rfl (hb W.hby hd) rfl (hz ▸ hr)
theorem g_lushr (W : Wk kn p l e R s m args below meth c bytes maxL ret Z a0 EL own T O P k n) {x z : Int64} {y : Int32} (hd : decode bytes pc = .ok (.lushr, 1)) (hz : XT.ushrL x y = z) (hq : pc + 1 = q) (K : Go p e below s R Z EL Q T (mkF m q L (.long z :: S))) : Go p e below s R Z EL Q T (mkF m pc L (.int y :: .long x :: S)) := by subst hq; exact K.step fun t hr => XT.lushr W.here W.hx rfl (hb W.hby hd) rfl (hz ▸ hr)
theorem g_l2i (W : Wk kn p l e R s m args below meth c bytes maxL ret Z a0 EL own T O P k n) {x : Int64} {z : Int32} (hd : decode bytes pc = .ok (.l2i, 1)) (hz : x.toInt32 = z) (hq : pc + 1 = q) (K : Go p e below s R Z EL Q T (mkF m q L (.int z :: S))) : Go p e below s R Z EL Q T (mkF m pc L (.long x :: S)) := by subst hq; exact K.step fun t hr => XT.l2i W.here W.hx rfl (hb W.hby hd) rfl (hz ▸ hr)
theorem g_i2l (W : Wk kn p l e R s m args below meth c bytes maxL ret Z a0 EL own T O P k n) {x : Int32} {z : Int64} (hd : decode bytes pc = .ok (.i2l, 1)) (hz : x.toInt64 = z) (hq : pc + 1 = q) (K : Go p e below s R Z EL Q T (mkF m q L (.long z :: S))) : Go p e below s R Z EL Q T (mkF m pc L (.int x :: S)) := by subst hq; exact K.step fun t hr => XT.i2l W.here W.hx rfl (hb W.hby hd) rfl (hz ▸ hr)
theorem g_lcmp (W : Wk kn p l e R s m args below meth c bytes maxL ret Z a0 EL own T O P k n) {x y : Int64} {z : Int32} (hd : decode bytes pc = .ok (.lcmp, 1)) (hz : XT.cmpL x y = z) (hq : pc + 1 = q) (K : Go p e below s R Z EL Q T (mkF m q L (.int z :: S))) : Go p e below s R Z EL Q T (mkF m pc L (.long y :: .long x :: S)) := by subst hq; exact K.step fun t hr => XT.lcmp W.here W.hx rfl (hb W.hby hd) rfl (hz ▸ hr)
theorem g_i2b (W : Wk kn p l e R s m args below meth c bytes maxL ret Z a0 EL own T O P k n) {x z : Int32} (hd : decode bytes pc = .ok (.i2b, 1)) (hz : x.toInt8.toInt32 = z) (hq : pc + 1 = q) (K : Go p e below s R Z EL Q T (mkF m q L (.int z :: S))) : Go p e below s R Z EL Q T (mkF m pc L (.int x :: S)) := by subst hq; exact K.step fun t hr => XT.i2b W.here W.hx rfl (hb W.hby hd) rfl (hz ▸ hr)
theorem g_i2c (W : Wk kn p l e R s m args below meth c bytes maxL ret Z a0 EL own T O P k n) {x z : Int32} (hd : decode bytes pc = .ok (.i2c, 1)) (hz : x.toUInt32.toUInt16.toUInt32.toInt32 = z) (hq : pc + 1 = q) (K : Go p e below s R Z EL Q T (mkF m q L (.int z :: S))) : Go p e below s R Z EL Q T (mkF m pc L (.int x :: S)) := by subst hq; exact K.step fun t hr => XT.i2c W.here W.hx rfl (hb W.hby hd) rfl (hz ▸ hr)
theorem g_dup (W : Wk kn p l e R s m args below meth c bytes maxL ret Z a0 EL own T O P k n) {x : Value} (hd : decode bytes pc = .ok (.dup, 1)) (hc : x.category = 1) (hq : pc + 1 = q) (K : Go p e below s R Z EL Q T (mkF m q L (x :: x :: S))) : Go p e below s R Z EL Q T (mkF m pc L (x :: S)) := by subst hq; exact K.step fun t hr => XS.dup W.here W.hx rfl (hb W.hby hd) rfl hc hr
theorem g_dupX1 (W : Wk kn p l e R s m args below meth c bytes maxL ret Z a0 EL own T O P k n) {x y : Value} (hd : decode bytes pc = .ok (.dup_x1, 1)) (hc : x.category = 1) (hc' : y.category = 1) (hq : pc + 1 = q) (K : Go p e below s R Z EL Q T (mkF m q L (x :: y :: x :: S))) : Go p e below s R Z EL Q T (mkF m pc L (x :: y :: S)) := by subst hq; exact K.step fun t hr => XT.dupX1 W.here W.hx rfl (hb W.hby hd) rfl hc hc' hr
theorem g_pop (W : Wk kn p l e R s m args below meth c bytes maxL ret Z a0 EL own T O P k n) {x : Value} (hd : decode bytes pc = .ok (.pop, 1)) (hc : x.category = 1) (hq : pc + 1 = q) (K : Go p e below s R Z EL Q T (mkF m q L S)) : Go p e below s R Z EL Q T (mkF m pc L (x :: S)) := by subst hq; exact K.step fun t hr => XT.pop W.here W.hx rfl (hb W.hby hd) rfl hc hr
theorem g_iinc (W : Wk kn p l e R s m args below meth c bytes maxL ret Z a0 EL own T O P k n) {j : Nat} {cst : Int} {x z : Int32} {L' : Array Slot} (hd : decode bytes pc = .ok (.iinc j cst, 3)) (hl : L[j]? = some (.val (.int x))) (hz : x + Int32.ofInt cst = z) (hl' : storeLocals L j (.int z) = some L') (hq : pc + 3 = q) (K : Go p e below s R Z EL Q T (mkF m q L' S)) : Go p e below s R Z EL Q T (mkF m pc L S) := by subst hq; exact K.step fun t hr => XS.iinc W.here W.hx rfl (hb W.hby hd) hl (hz.symm ▸ hl') hr
theorem g_goto (W : Wk kn p l e R s m args below meth c bytes maxL ret Z a0 EL own T O P k n) {o : Int} (hd : decode bytes pc = .ok (.goto o, 3))  (ho : 0 ≤ (pc : Int) + o) (hq : ((pc : Int) + o).toNat = q) (K : Go p e below s R Z EL Q T (mkF m q L S)) : Go p e below s R Z EL Q T (mkF m pc L S) := by subst hq; exact K.step fun t hr => XS.goto W.here W.hx rfl (pc0 := pc) rfl (hb W.hby hd) ho rfl hr
theorem g_ifY (W : Wk kn p l e R s m args below meth c bytes maxL ret Z a0 EL own T O P k n) {o : Int} {cd : ClassFile.Cond} {x : Int32} (hd : decode bytes pc = .ok (.ifCond cd o, 3)) (hc : ifCond.holds cd x = true) (ho : 0 ≤ (pc : Int) + o) (hq : ((pc : Int) + o).toNat = q) (K : Go p e below s R Z EL Q T (mkF m q L S)) : Go p e below s R Z EL Q T (mkF m pc L (.int x :: S)) := by subst hq; exact K.step fun t hr => XS.ifYes W.here W.hx rfl (pc0 := pc) rfl (hb W.hby hd) rfl hc ho rfl hr
theorem g_ifN (W : Wk kn p l e R s m args below meth c bytes maxL ret Z a0 EL own T O P k n) {o : Int} {cd : ClassFile.Cond} {x : Int32} (hd : decode bytes pc = .ok (.ifCond cd o, 3)) (hc : ifCond.holds cd x = false) (hq : pc + 3 = q) (K : Go p e below s R Z EL Q T (mkF m q L S)) : Go p e below s R Z EL Q T (mkF m pc L (.int x :: S)) := by subst hq; exact K.step fun t hr => XS.ifNo W.here W.hx rfl (hb W.hby hd) rfl hc hr
theorem g_icY (W : Wk kn p l e R s m args below meth c bytes maxL ret Z a0 EL own T O P k n) {o : Int} {cd : ClassFile.Cond} {x y : Int32} (hd : decode bytes pc = .ok (.if_icmp cd o, 3)) (hc : if_icmp.holds cd x y = true) (ho : 0 ≤ (pc : Int) + o) (hq : ((pc : Int) + o).toNat = q) (K : Go p e below s R Z EL Q T (mkF m q L S)) : Go p e below s R Z EL Q T (mkF m pc L (.int y :: .int x :: S)) := by subst hq; exact K.step fun t hr => XS.icmpYes W.here W.hx rfl (pc0 := pc) rfl (hb W.hby hd) rfl hc ho rfl hr
theorem g_icN (W : Wk kn p l e R s m args below meth c bytes maxL ret Z a0 EL own T O P k n) {o : Int} {cd : ClassFile.Cond} {x y : Int32} (hd : decode bytes pc = .ok (.if_icmp cd o, 3)) (hc : if_icmp.holds cd x y = false) (hq : pc + 3 = q) (K : Go p e below s R Z EL Q T (mkF m q L S)) : Go p e below s R Z EL Q T (mkF m pc L (.int y :: .int x :: S)) := by subst hq; exact K.step fun t hr => XS.icmpNo W.here W.hx rfl (hb W.hby hd) rfl hc hr
theorem g_acY (W : Wk kn p l e R s m args below meth c bytes maxL ret Z a0 EL own T O P k n) {o : Int} {cd : ClassFile.ACond} {x y : Value} (hd : decode bytes pc = .ok (.if_acmp cd o, 3)) (h1 : x.isRef = true) (h2 : y.isRef = true) (hc : XT.acmp cd x y = true) (ho : 0 ≤ (pc : Int) + o) (hq : ((pc : Int) + o).toNat = q) (K : Go p e below s R Z EL Q T (mkF m q L S)) : Go p e below s R Z EL Q T (mkF m pc L (y :: x :: S)) := by subst hq; exact K.step fun t hr => XT.acmpYes W.here W.hx rfl (pc0 := pc) rfl (hb W.hby hd) rfl h1 h2 hc ho rfl hr
theorem g_acN (W : Wk kn p l e R s m args below meth c bytes maxL ret Z a0 EL own T O P k n) {o : Int} {cd : ClassFile.ACond} {x y : Value} (hd : decode bytes pc = .ok (.if_acmp cd o, 3)) (h1 : x.isRef = true) (h2 : y.isRef = true) (hc : XT.acmp cd x y = false) (hq : pc + 3 = q) (K : Go p e below s R Z EL Q T (mkF m q L S)) : Go p e below s R Z EL Q T (mkF m pc L (y :: x :: S)) := by subst hq; exact K.step fun t hr => XT.acmpNo W.here W.hx rfl (hb W.hby hd) rfl h1 h2 hc hr
theorem g_nullY (W : Wk kn p l e R s m args below meth c bytes maxL ret Z a0 EL own T O P k n) {o : Int} (hd : decode bytes pc = .ok (.ifnull o, 3))  (ho : 0 ≤ (pc : Int) + o) (hq : ((pc : Int) + o).toNat = q) (K : Go p e below s R Z EL Q T (mkF m q L S)) : Go p e below s R Z EL Q T (mkF m pc L (.null :: S)) := by subst hq; exact K.step fun t hr => XS.ifnullYes W.here W.hx rfl (pc0 := pc) rfl (hb W.hby hd) rfl ho rfl hr
theorem g_nullN (W : Wk kn p l e R s m args below meth c bytes maxL ret Z a0 EL own T O P k n) {o : Int} {b : Addr} (hd : decode bytes pc = .ok (.ifnull o, 3))  (hq : pc + 3 = q) (K : Go p e below s R Z EL Q T (mkF m q L S)) : Go p e below s R Z EL Q T (mkF m pc L (.ref b :: S)) := by subst hq; exact K.step fun t hr => XS.ifnullNo W.here W.hx rfl (hb W.hby hd) rfl hr
theorem g_nonnullY (W : Wk kn p l e R s m args below meth c bytes maxL ret Z a0 EL own T O P k n) {o : Int} {b : Addr} (hd : decode bytes pc = .ok (.ifnonnull o, 3))  (ho : 0 ≤ (pc : Int) + o) (hq : ((pc : Int) + o).toNat = q) (K : Go p e below s R Z EL Q T (mkF m q L S)) : Go p e below s R Z EL Q T (mkF m pc L (.ref b :: S)) := by subst hq; exact K.step fun t hr => XT.ifnonnullYes W.here W.hx rfl (pc0 := pc) rfl (hb W.hby hd) rfl ho rfl hr
theorem g_nonnullN (W : Wk kn p l e R s m args below meth c bytes maxL ret Z a0 EL own T O P k n) {o : Int} (hd : decode bytes pc = .ok (.ifnonnull o, 3))  (hq : pc + 3 = q) (K : Go p e below s R Z EL Q T (mkF m q L S)) : Go p e below s R Z EL Q T (mkF m pc L (.null :: S)) := by subst hq; exact K.step fun t hr => XT.ifnonnullNo W.here W.hx rfl (hb W.hby hd) rfl hr
theorem g_ldcI (W : Wk kn p l e R s m args below meth c bytes maxL ret Z a0 EL own T O P k n) {index : Nat} {v : Int32} (w : (Jvm.Cond.constant own index v).before a0 Z = true) (hd : decode bytes pc = .ok (.ldc index, 2)) (hq : pc + 2 = q) (K : Go p e below s R Z EL Q T (mkF m q L (.int v :: S))) : Go p e below s R Z EL Q T (mkF m pc L S) := by
  subst hq
  obtain ⟨⟨hx, hby, -⟩, locs, X, -, hZ, hown, -⟩ := W
  exact K.step fun t hr => Stand.ldcI X hx (own := own) hown (mv (s := s.setVm T.vm) hZ w) rfl (hb hby hd) hr
theorem g_getF (W : Wk kn p l e R s m args below meth c bytes maxL ret Z a0 EL own T O P k n) {index i : Nat} {a : Addr} {C F nm d : String} {sh : Shape} {vs : List Value} {v : Value} (hK : ∃ c, T.heap[a]? = some c ∧ ObjC Z C sh vs c) (hs : sh[i]? = some (F, nm, d)) (hv : vs[i]? = some v) (w : (Jvm.Cond.fieldLink own index F nm d).before a0 Z = true)
    (hd : decode bytes pc = .ok (.getfield index, 3)) (hq : pc + 3 = q) (K : ∀ T', Wk kn p l e R s m args below meth c bytes maxL ret Z a0 EL own T' O P k n → Go p e below s R Z EL Q T' (mkF m q L (v :: S))) : Go p e below s R Z EL Q T (mkF m pc L (.ref a :: S)) := by
  subst hq
  obtain ⟨cl, q1, q2⟩ := hK
  obtain ⟨⟨hx, hby, -⟩, locs, X, -, hZ, hown, N, -⟩ := id W
  obtain ⟨T1, X1, e1, st⟩ := getF X hx (s := s.setVm T.vm) hZ hown (host := "") (Or.inl w) Via.refl rfl ((q2.get hs hv).fld q1) (g := mkF m pc L (.ref a :: S)) rfl rfl (hb hby hd)
  exact (K T1 (W.same X1 e1 N)).step st
theorem g_getFU (W : Wk kn p l e R s m args below meth c bytes maxL ret Z a0 EL own T O P k n) {index i : Nat} {a : Addr} {C F R0 nm d : String} {sh : Shape} {vs : List Value} {v : Value} (hK : ∃ c, T.heap[a]? = some c ∧ ObjC Z C sh vs c) (hs : sh[i]? = some (F, nm, d)) (hv : vs[i]? = some v) (w : (Jvm.Cond.fieldLink own index R0 nm d).before a0 Z = true) (via : Via Z R0 F nm d)
    (hd : decode bytes pc = .ok (.getfield index, 3)) (hq : pc + 3 = q) (K : ∀ T', Wk kn p l e R s m args below meth c bytes maxL ret Z a0 EL own T' O P k n → Go p e below s R Z EL Q T' (mkF m q L (v :: S))) : Go p e below s R Z EL Q T (mkF m pc L (.ref a :: S)) := by
  subst hq
  obtain ⟨cl, q1, q2⟩ := hK
  obtain ⟨⟨hx, hby, -⟩, locs, X, -, hZ, hown, N, -⟩ := id W
  obtain ⟨T1, X1, e1, st⟩ := getF X hx (s := s.setVm T.vm) hZ hown (host := "") (Or.inl w) via rfl ((q2.get hs hv).fld q1) (g := mkF m pc L (.ref a :: S)) rfl rfl (hb hby hd)
  exact (K T1 (W.same X1 e1 N)).step st
theorem g_getS (W : Wk kn p l e R s m args below meth c bytes maxL ret Z a0 EL own T O P k n) {index : Nat} {F nm d : String} {v : Value} (hF : Sta Z Z.heap F nm d v) (w : (Jvm.Cond.fieldLink own index F nm d).before a0 Z = true)
    (hd : decode bytes pc = .ok (.getstatic index, 3)) (hq : pc + 3 = q) (K : ∀ T', Wk kn p l e R s m args below meth c bytes maxL ret Z a0 EL own T' O P k n → Go p e below s R Z EL Q T' (mkF m q L (v :: S))) : Go p e below s R Z EL Q T (mkF m pc L S) := by
  subst hq
  obtain ⟨⟨hx, hby, -⟩, locs, X, -, hZ, hown, N, -⟩ := id W
  obtain ⟨T1, X1, e1, st⟩ := getS X hx (s := s.setVm T.vm) hZ (host := "") hown w Via.refl rfl (hF.ext W.old) (g := mkF m pc L S) rfl (hb hby hd)
  exact (K T1 (W.same X1 e1 N)).step st
theorem g_putF (W : Wk kn p l e R s m args below meth c bytes maxL ret Z a0 EL own T O P k n) {i j index kk : Nat} {a : Addr} {C F nm d : String} {sh : Shape} {vs vs' : List Value} {v old : Value} {ty : FieldType} (hi : O[i]? = some (a, ObjC Z C sh vs)) (hsh : ShOk Z a0 C sh) (nd : (sh.map (·.2.1)).Nodup) (hs : sh[j]? = some (F, nm, d)) (ho : vs[j]? = some old) (w : (Jvm.Cond.fieldLink own index F nm d).before a0 Z = true)
    (hl : (Jvm.Cond.lays C F nm d).before a0 Z = true ∨ ((Jvm.Cond.laysFinal C F nm d).before a0 Z = true ∧ own = F ∧ meth.name = "<init>")) (wi : (Jvm.Cond.instantiable C kk).before a0 Z = true) (hty : parseFieldDescriptor d = some ty) (hn : narrow ty v = v) (hf : fits ty v = true)
    (hd : decode bytes pc = .ok (.putfield index, 3)) (hq : pc + 3 = q) (hvs : vs.set j v = vs') (hO : O.set i (a, ObjC Z C sh vs') = O') (K : ∀ T', Wk kn p l e R s m args below meth c bytes maxL ret Z a0 EL own T' O' P k n → Go p e below s R Z EL Q T' (mkF m q L S)) : Go p e below s R Z EL Q T (mkF m pc L (v :: .ref a :: S)) := by
  subst hq; subst hO; subst hvs
  obtain ⟨cl, q1, q2⟩ := W.ow hi
  obtain ⟨⟨hx, hby, -⟩, locs, X, -, hZ, hown, N, -⟩ := id W
  obtain ⟨T1, h1, X1, e1, Wr1, st⟩ := putF X hx (s := s.setVm T.vm) hZ hown (host := "") (Or.inl w) Via.refl rfl ((q2.get hs ho).fld q1) (q2.1.exa q1) hl wi hty hn hf (g := mkF m pc L (v :: .ref a :: S)) rfl rfl (hb hby hd)
  subst e1
  exact (K T1 (W.wrote X1 hi (Keep.of_wr Wr1) (Fr.snoc X1 N (W.fr hi)) (q2.set hsh nd hs Wr1 q1))).step st
theorem g_new (W : Wk kn p l e R s m args below meth c bytes maxL ret Z a0 EL own T O P k n) {index ns : Nat} {C : String} {sh : Shape} {ds : List Value} (hsh : ShOk Z a0 C sh) (hds : sh.map (fun f => (parseFieldDescriptor f.2.2).map defaultValue) = ds.map some) (w : (Jvm.Cond.classLink own index C).before a0 Z = true) (wi : (Jvm.Cond.instantiable C ns).before a0 Z = true) (wz : (Jvm.Cond.initialized C).before a0 Z = true)
    (hd : decode bytes pc = .ok (.new index, 3)) (hq : pc + 3 = q) (hk : k + 1 ≤ R.cells) (hn : n + ns ≤ R.slots) (K : ∀ a T', Wk kn p l e R s m args below meth c bytes maxL ret Z a0 EL own T' ((a, ObjC Z C sh ds) :: O) P (k + 1) (n + ns) → Go p e below s R Z EL Q T' (mkF m q L (.ref a :: S))) : Go p e below s R Z EL Q T (mkF m pc L S) := by
  subst hq
  obtain ⟨⟨hx, hby, -⟩, locs, X, -, hZ, hown, N, -⟩ := id W
  obtain ⟨T1, h1, X1, e1, E1, A1, D1, -, st⟩ := newO X hx (s := s.setVm T.vm) hZ hown w wi wz rfl (g := mkF m pc L S) rfl (hb hby hd) hk hn
  subst e1
  refine (K _ T1 (W.made X1 E1 N ?_)).step st
  obtain ⟨cl, q1, q2⟩ := exaC A1
  refine ⟨cl, q1, q2, fun i f v hi hv => fldC q1 ?_⟩
  obtain ⟨L1, t, ht⟩ := hsh i f hi
  have e1 := congrArg (fun z => z[i]?) hds
  simp only [List.getElem?_map, hi, hv, Option.map_some, ht, Option.some.injEq] at e1
  rw [← e1]
  exact D1 L1 ht
theorem g_newA (W : Wk kn p l e R s m args below meth c bytes maxL ret Z a0 EL own T O P k n) {aty : ArrayType} {ty : FieldType} {z : Int32} {cap : Nat} {vs : List Value} (hty : newarray.typeOf aty = ty) (w : (Jvm.Cond.arrayClass ty).before a0 Z = true) (hz : ¬ z < 0) (hcap : z.toNatClampNeg ≤ cap) (hb' : cap * 8 ≤ 536870912) (hdf : fits ty (defaultValue ty) = true) (hvs : List.replicate z.toNatClampNeg (defaultValue ty) = vs)
    (hd : decode bytes pc = .ok (.newarray aty, 2)) (hq : pc + 2 = q) (hk : k + 1 ≤ R.cells) (hn : n + cap ≤ R.slots) (K : ∀ a T', Wk kn p l e R s m args below meth c bytes maxL ret Z a0 EL own T' ((a, ArrC Z ty vs) :: O) P (k + 1) (n + cap) → Go p e below s R Z EL Q T' (mkF m q L (.ref a :: S))) : Go p e below s R Z EL Q T (mkF m pc L (.int z :: S)) := by
  subst hq; subst hvs; subst hty
  obtain ⟨⟨hx, hby, -⟩, locs, X, -, hZ, hown, N, -⟩ := id W
  obtain ⟨T1, h1, cA, X1, e1, E1, A1, st⟩ := newP X hx (s := s.setVm T.vm) hZ w rfl (g := mkF m pc L (.int z :: S)) rfl (hb hby hd) rfl hz hcap hb' hk hn
  subst e1
  exact (K _ T1 (W.made X1 E1 N (ArrC.new A1 hz hdf))).step st
theorem g_len (W : Wk kn p l e R s m args below meth c bytes maxL ret Z a0 EL own T O P k n) {a : Addr} {ty : FieldType} {vs : List Value} {z : Int32} (hK : ∃ c, T.heap[a]? = some c ∧ ArrC Z ty vs c) (hz : vs.length.toInt32 = z) (hd : decode bytes pc = .ok (.arraylength, 1)) (hq : pc + 1 = q) (K : Go p e below s R Z EL Q T (mkF m q L (.int z :: S))) : Go p e below s R Z EL Q T (mkF m pc L (.ref a :: S)) := by
  subst hq; subst hz
  obtain ⟨cl, q1, q2⟩ := hK
  obtain ⟨⟨hx, hby, -⟩, locs, X, -, hZ, hown, N, -⟩ := id W
  exact K.step fun t hr => X.arraylength hx q1 (State.isArrayOf_alike (s := Z) hZ.alike q2.1) (g := mkF m pc L (.ref a :: S)) rfl rfl (hb hby hd) t (by rw [q2.size]; exact hr)
theorem own_inb {vs : List Value} {cl : Cell} {ty : FieldType} {j : Int32} {i : Nat} {v : Value} (F : ArrC Z ty vs cl) (hj : ¬ j < 0) (hji : j.toNatClampNeg = i) (hv : vs[i]? = some v) : ¬ (j < 0 ∨ cl.slots.size ≤ j.toNatClampNeg) ∧ cl.slots[j.toNatClampNeg]? = some v := by
  subst hji
  refine ⟨fun z => ?_, F.at hv⟩
  rcases z with z | z
  · exact hj z
  · rw [F.size] at z
    rw [List.getElem?_eq_none z] at hv; cases hv
theorem g_caload (W : Wk kn p l e R s m args below meth c bytes maxL ret Z a0 EL own T O P k n) {a : Addr} {vs : List Value} {j : Int32} {i : Nat} {v : Value} (hK : ∃ c, T.heap[a]? = some c ∧ ArrC Z .char vs c) (hj : ¬ j < 0) (hji : j.toNatClampNeg = i) (hv : vs[i]? = some v) (hd : decode bytes pc = .ok (.caload, 1)) (hq : pc + 1 = q) (K : Go p e below s R Z EL Q T (mkF m q L (v :: S))) : Go p e below s R Z EL Q T (mkF m pc L (.int j :: .ref a :: S)) := by
  subst hq
  obtain ⟨cl, q1, q2⟩ := hK
  obtain ⟨⟨hx, hby, -⟩, locs, X, -, hZ, hown, N, -⟩ := id W
  obtain ⟨i1, i2⟩ := own_inb q2 hj hji hv
  exact K.step fun t hr => X.caload hx q1 (State.isArrayOf_alike (s := Z) hZ.alike q2.1) q2.2.1 i1 i2 (g := mkF m pc L (.int j :: .ref a :: S)) rfl rfl (hb hby hd) t hr
theorem g_baload (W : Wk kn p l e R s m args below meth c bytes maxL ret Z a0 EL own T O P k n) {a : Addr} {vs : List Value} {j : Int32} {i : Nat} {v : Value} (hK : ∃ c, T.heap[a]? = some c ∧ ArrC Z .byte vs c) (hj : ¬ j < 0) (hji : j.toNatClampNeg = i) (hv : vs[i]? = some v) (hd : decode bytes pc = .ok (.baload, 1)) (hq : pc + 1 = q) (K : Go p e below s R Z EL Q T (mkF m q L (v :: S))) : Go p e below s R Z EL Q T (mkF m pc L (.int j :: .ref a :: S)) := by
  subst hq
  obtain ⟨cl, q1, q2⟩ := hK
  obtain ⟨⟨hx, hby, -⟩, locs, X, -, hZ, hown, N, -⟩ := id W
  obtain ⟨i1, i2⟩ := own_inb q2 hj hji hv
  exact K.step fun t hr => X.baloadBytes hx q1 (State.isArrayOf_alike (s := Z) hZ.alike q2.1) q2.2.1 i1 i2 (g := mkF m pc L (.int j :: .ref a :: S)) rfl rfl (hb hby hd) t hr
theorem g_castore (W : Wk kn p l e R s m args below meth c bytes maxL ret Z a0 EL own T O P k n) {a : Addr} {vs vs' : List Value} {j x y : Int32} {i ii : Nat} {old : Value} (hi : O[i]? = some (a, ArrC Z .char vs)) (hj : ¬ j < 0) (hji : j.toNatClampNeg = ii) (ho : vs[ii]? = some old) (hy : nar .char x = y) (hd : decode bytes pc = .ok (.castore, 1)) (hq : pc + 1 = q) (hvs : vs.set ii (.int y) = vs') (hO : O.set i (a, ArrC Z .char vs') = O')
    (K : ∀ T', Wk kn p l e R s m args below meth c bytes maxL ret Z a0 EL own T' O' P k n → Go p e below s R Z EL Q T' (mkF m q L S)) : Go p e below s R Z EL Q T (mkF m pc L (.int x :: .int j :: .ref a :: S)) := by
  subst hq; subst hO; subst hvs; subst hy; subst hji
  obtain ⟨cl, q1, q2⟩ := W.ow hi
  obtain ⟨⟨hx, hby, -⟩, locs, X, -, hZ, hown, N, -⟩ := id W
  obtain ⟨i1, i2⟩ := own_inb q2 hj rfl ho
  obtain ⟨T1, h1, X1, e1, Wr1, st⟩ := stC X hx (s := s.setVm T.vm) hZ rfl (q2.arr q1) i1 (g := mkF m pc L (.int x :: .int j :: .ref a :: S)) rfl rfl (hb hby hd)
  subst e1
  exact (K T1 (W.wrote X1 hi (Keep.of_wr Wr1) (Fr.snoc X1 N (W.fr hi)) (q2.set (fits_nar_char x) Wr1 q1))).step st
theorem g_bastore (W : Wk kn p l e R s m args below meth c bytes maxL ret Z a0 EL own T O P k n) {a : Addr} {vs vs' : List Value} {j x y : Int32} {i ii : Nat} {old : Value} (hi : O[i]? = some (a, ArrC Z .byte vs)) (hj : ¬ j < 0) (hji : j.toNatClampNeg = ii) (ho : vs[ii]? = some old) (hy : nar .byte x = y) (hd : decode bytes pc = .ok (.bastore, 1)) (hq : pc + 1 = q) (hvs : vs.set ii (.int y) = vs') (hO : O.set i (a, ArrC Z .byte vs') = O')
    (K : ∀ T', Wk kn p l e R s m args below meth c bytes maxL ret Z a0 EL own T' O' P k n → Go p e below s R Z EL Q T' (mkF m q L S)) : Go p e below s R Z EL Q T (mkF m pc L (.int x :: .int j :: .ref a :: S)) := by
  subst hq; subst hO; subst hvs; subst hy; subst hji
  obtain ⟨cl, q1, q2⟩ := W.ow hi
  obtain ⟨⟨hx, hby, -⟩, locs, X, -, hZ, hown, N, -⟩ := id W
  obtain ⟨i1, i2⟩ := own_inb q2 hj rfl ho
  obtain ⟨T1, h1, X1, e1, Wr1, st⟩ := stB X hx (s := s.setVm T.vm) hZ rfl (q2.arr q1) i1 (g := mkF m pc L (.int x :: .int j :: .ref a :: S)) rfl rfl (hb hby hd)
  subst e1
  exact (K T1 (W.wrote X1 hi (Keep.of_wr Wr1) (Fr.snoc X1 N (W.fr hi)) (q2.set (fits_nar_byte x) Wr1 q1))).step st
theorem g_cast (W : Wk kn p l e R s m args below meth c bytes maxL ret Z a0 EL own T O P k n) {a : Addr} {index : Nat} {C D : String} (hK : ∃ c, T.heap[a]? = some c ∧ ExaC Z C c) (w : (Jvm.Cond.classLink own index D).before a0 Z = true) (wc : (Jvm.Cond.castable C D).before a0 Z = true) (hd : decode bytes pc = .ok (.checkcast index, 3)) (hq : pc + 3 = q)
    (K : ∀ T', Wk kn p l e R s m args below meth c bytes maxL ret Z a0 EL own T' O P k n → Go p e below s R Z EL Q T' (mkF m q L (.ref a :: S))) : Go p e below s R Z EL Q T (mkF m pc L (.ref a :: S)) := by
  subst hq
  obtain ⟨cl, q1, q2⟩ := hK
  obtain ⟨⟨hx, hby, -⟩, locs, X, -, hZ, hown, N, -⟩ := id W
  obtain ⟨T1, X1, e1, st⟩ := castY X hx (s := s.setVm T.vm) hZ hown w rfl (Ins.of_exa (q2.exa q1) wc) (g := mkF m pc L (.ref a :: S)) rfl rfl (hb hby hd)
  exact (K T1 (W.same X1 e1 N)).step st
theorem g_inst (W : Wk kn p l e R s m args below meth c bytes maxL ret Z a0 EL own T O P k n) {a : Addr} {index : Nat} {C D : String} (hK : ∃ c, T.heap[a]? = some c ∧ ExaC Z C c) (w : (Jvm.Cond.classLink own index D).before a0 Z = true) (wc : (Jvm.Cond.castable C D).before a0 Z = true) (hd : decode bytes pc = .ok (.instanceof index, 3)) (hq : pc + 3 = q)
    (K : ∀ T', Wk kn p l e R s m args below meth c bytes maxL ret Z a0 EL own T' O P k n → Go p e below s R Z EL Q T' (mkF m q L (.int 1 :: S))) : Go p e below s R Z EL Q T (mkF m pc L (.ref a :: S)) := by
  subst hq
  obtain ⟨cl, q1, q2⟩ := hK
  obtain ⟨⟨hx, hby, -⟩, locs, X, -, hZ, hown, N, -⟩ := id W
  obtain ⟨T1, X1, e1, st⟩ := instY X hx (s := s.setVm T.vm) hZ hown w rfl (Ins.of_exa (q2.exa q1) wc) (g := mkF m pc L (.ref a :: S)) rfl rfl (hb hby hd)
  exact (K T1 (W.same X1 e1 N)).step st
theorem g_objInit (W : Wk kn p l e R s m args below meth c bytes maxL ret Z a0 EL own T O P k n) {a : Addr} {index : Nat} (w1 : (Jvm.Cond.methodLink own index Lib.objectInit).before a0 Z = true) (w2 : (Jvm.Cond.instanceMethod Lib.objectInit).before a0 Z = true) (w3 : (Jvm.Cond.code Lib.objectInit ⟨#[0xb1]⟩ 1 none).before a0 Z = true) (hd : decode bytes pc = .ok (.invokespecial index, 3)) (hq : pc + 3 = q)
    (hL : L.size = maxL) (hf : 1 ≤ R.frames) (hl : (S.map fun v => v.category).sum + 12 ≤ R.locals) (K : ∀ T', Wk kn p l e R s m args below meth c bytes maxL ret Z a0 EL own T' O P k n → Go p e below s R Z EL Q T' (mkF m q L S)) : Go p e below s R Z EL Q T (mkF m pc L (.ref a :: S)) := by
  subst hq
  obtain ⟨⟨hx, hby, hml, -⟩, locs, X, -, hZ, hown, N, -⟩ := id W
  obtain ⟨T1, X1, e1, st⟩ := initO X hx (s := s.setVm T.vm) hZ hown w1 w2 w3 rfl (g := mkF m pc L (.ref a :: S)) rfl (hL.trans hml.symm) rfl (hb hby hd) hf (W := (S.map fun v => v.category).sum) (by show 2 * 0 + _ ≤ _; omega) hl
  exact (K T1 (W.same X1 e1 N)).step st
/-- ldc of a String constant; what it says isn't asked -/
theorem g_ldcO (W : Wk kn p l e R s m args below meth c bytes maxL ret Z a0 EL own T O P k n) {index nn : Nat} {text : String} (w : (Jvm.Cond.stringLink own index text).before a0 Z = true) (wS : ∀ a ∈ Bundle.stringAtoms, a.before a0 Z = true) (hd : decode bytes pc = .ok (.ldc index, 2)) (hq : pc + 2 = q) (hnn : 4 * text.toList.length ≤ nn) (hbig : nn ≤ 536870912) (hk : k + 2 ≤ R.cells) (hn : n + (nn + 4) ≤ R.slots)
    (K : ∀ a T', Wk kn p l e R s m args below meth c bytes maxL ret Z a0 EL own T' O P (k + 2) (n + (nn + 4)) → Go p e below s R Z EL Q T' (mkF m q L (.ref a :: S))) : Go p e below s R Z EL Q T (mkF m pc L S) := by
  subst hq
  obtain ⟨⟨hx, hby, -, -, -, hEL, -⟩, locs, X, hS, hZ, hown, N, -⟩ := id W
  obtain ⟨a, T1, h1, k1, X1, e1, E1, hS1, hk1, hZ1, hf1, A1, -, st⟩ := ldcOH X hx hZ hown w wS rfl hS (Nat.le_refl _) hEL W.chv (g := mkF m pc L S) rfl (hb hby hd) hnn hbig hk hn
  subst e1
  refine (K a T1 (W.core X1 (own_since hS1 hk1) hZ1 hf1 N A1 ⟨Nat.le_trans W.old.1 E1.1, fun a c q => E1.2 _ _ (W.old.2 _ _ q)⟩ (W.lay.mono A1 E1))).step st
def shStr : Shape := [("java/lang/String", "value", "[B"), ("java/lang/String", "coder", "B")]
/-- ldc of a String constant whose text is read -/
theorem g_ldcH (W : Wk kn p l e R s m args below meth c bytes maxL ret Z a0 EL own T O P k n) {index nn : Nat} {text : String} {vs : List Value} (w : (Jvm.Cond.stringLink own index text).before a0 Z = true) (wS : ∀ a ∈ Bundle.stringAtoms, a.before a0 Z = true) (hmem : (own, index) ∈ EL)
    (ht : (∀ c ∈ text.toList, c.toNat < 256) ∧ text.toList.map (fun c => Value.int (Jvm.Lit.byteI c.toNat.toUInt16)) = vs) (hlen : vs.length < 2 ^ 31) (hfit : ∀ v ∈ vs, fits .byte v = true) (hd : decode bytes pc = .ok (.ldc index, 2)) (hq : pc + 2 = q) (hnn : 4 * text.toList.length ≤ nn) (hbig : nn ≤ 536870912) (hk : k + 2 ≤ R.cells) (hn : n + (nn + 4) ≤ R.slots)
    (K : ∀ a b T', Wk kn p l e R s m args below meth c bytes maxL ret Z a0 EL own T' O ((a, ObjC Z "java/lang/String" shStr [.ref b, .int 0]) :: (b, ArrC Z .byte vs) :: P) (k + 2) (n + (nn + 4)) → Go p e below s R Z EL Q T' (mkF m q L (.ref a :: S))) : Go p e below s R Z EL Q T (mkF m pc L S) := by
  subst hq
  obtain ⟨⟨hx, hby, -, -, -, hEL, -⟩, locs, X, hS, hZ, hown, N, -⟩ := id W
  have z1 : (vs.length.toInt32).toInt = vs.length := len_toInt hlen
  have z0 : ¬ vs.length.toInt32 < 0 := fun z => by rw [Int32.lt_iff_toInt_lt, z1] at z; exact absurd z (by simp)
  have z2 : (vs.length.toInt32).toNatClampNeg = vs.length := by simp only [Int32.toNatClampNeg, z1]; rfl
  obtain ⟨a, T1, h1, k1, b, kc, X1, e1, E1, hS1, hk1, hZ1, hf1, Ex, F1, F2, Av, -, -, A1, -, ne, st⟩ := ldcCH X hx hZ hown w wS rfl hS (Nat.le_refl _) hEL hmem W.chv ht z0 z2 (g := mkF m pc L S) rfl (hb hby hd) hnn hbig hk hn
  subst e1
  have L1 := W.lay.mono A1 E1
  have na : ∀ (i : Nat) (x : Ent), O[i]? = some x → x.1 ≠ a := fun i x q => (ne _ (L1.1 i x q).2.2).1
  have nb : ∀ (i : Nat) (x : Ent), O[i]? = some x → x.1 ≠ b := fun i x q => (ne _ (L1.1 i x q).2.2).2
  obtain ⟨cl, q1, q2⟩ := exaC Ex
  obtain ⟨cb, ⟨r1, r2, r3⟩, -, r5, -, r7, -⟩ := Av
  refine (K a b T1 (W.core X1 (own_since hS1 hk1) hZ1 hf1 N A1 ⟨Nat.le_trans W.old.1 E1.1, fun a c q => E1.2 _ _ (W.old.2 _ _ q)⟩ ((L1.ro (φ := ArrC Z .byte vs) ⟨cb, r1, r2, r3, ?_, hfit, hlen⟩ nb).ro ⟨cl, q1, q2, fun i f v hi hv => ?_⟩ na))).step st
  · rw [z2] at r5
    refine List.ext_getElem? fun i => ?_
    rcases Nat.lt_or_ge i vs.length with z | z
    · have e1 := r7 i (by rw [r5]; exact z)
      rw [Array.getElem?_toList, e1, List.getD_eq_getElem?_getD, List.getElem?_eq_getElem z]; rfl
    · rw [List.getElem?_eq_none z, List.getElem?_eq_none (by simpa [r5] using z)]
  · match i, hi, hv with
    | 0, hi, hv => cases hi; cases hv; exact fldC q1 F2
    | 1, hi, hv => cases hi; cases hv; exact fldC q1 F1
    | i + 2, hi, hv => simp [shStr] at hi
theorem own_mono {s : State} {o : Outcome} {t : State} {L : List Loc} {k n k' n' : Nat} (h : ReturnedEndW s o t L k n) (hk : k ≤ k') (hn : n ≤ n') : ReturnedEndW s o t L k' n' := ⟨h.1, h.2.1, h.2.2.1, h.2.2.2.mono hk hn⟩
theorem g_ret (W : Wk kn p l e R s m args below meth c bytes maxL ret Z a0 EL own T O P k n) {v : Value} {t : FieldType} {i : Instr} (hret : ret = some t) (hn : narrow t v = v)
    (hi : (i = .ireturn ∧ (t = .int ∨ t = .boolean ∨ t = .byte ∨ t = .char ∨ t = .short) ∧ ∃ z, v = .int z) ∨ (i = .lreturn ∧ t = .long ∧ ∃ z, v = .long z) ∨ (i = .dreturn ∧ t = .double ∧ ∃ z, v = .double z) ∨ (i = .freturn ∧ t = .float ∧ ∃ z, v = .float z) ∨ (i = .areturn ∧ t.isReference = true ∧ v.isRef = true))
    (hd : decode bytes pc = .ok (i, 1)) (hk : k ≤ R.cells) (hs : n ≤ R.slots) (hQ : Q (some v) O P) : Go p e below s R Z EL Q T (mkF m pc L (v :: S)) := by
  subst hret
  obtain ⟨⟨hx, hby, -, hr, hlk, -⟩, locs, X, hS, hZ, hown, N, H, E, La⟩ := W
  obtain ⟨fs, h1, h2, h3, h4⟩ := X.leaveW hS (Nat.le_refl _) (v := some v) (fun z => by rw [hr] at z; cases z) hlk
  exact ⟨_, _, retOut X hx hr hn hi (hb hby hd) h1, h2, h3, _, _, rfl, H, own_mono h4 hk hs, N, E, O, P, La, hQ⟩
theorem g_retI (W : Wk kn p l e R s m args below meth c bytes maxL ret Z a0 EL own T O P k n) {v : Int32} {t : FieldType} (hret : ret = some t) (ht : t = .int ∨ t = .boolean ∨ t = .byte ∨ t = .char ∨ t = .short) (hn : narrow t (.int v) = .int v) (hd : decode bytes pc = .ok (.ireturn, 1)) (hk : k ≤ R.cells) (hs : n ≤ R.slots) (hQ : Q (some (.int v)) O P) : Go p e below s R Z EL Q T (mkF m pc L (.int v :: S)) :=
  g_ret W hret hn (Or.inl ⟨rfl, ht, v, rfl⟩) hd hk hs hQ
theorem own_nar {t : FieldType} {v : Value} (ht : t.isReference = true) (hv : v.isRef = true) : narrow t v = v := by
  cases t <;> first | (cases ht; done) | (cases v <;> first | (cases hv; done) | rfl)
theorem g_retA (W : Wk kn p l e R s m args below meth c bytes maxL ret Z a0 EL own T O P k n) {v : Value} {t : FieldType} (hret : ret = some t) (ht : t.isReference = true) (hv : v.isRef = true) (hd : decode bytes pc = .ok (.areturn, 1)) (hk : k ≤ R.cells) (hs : n ≤ R.slots) (hQ : Q (some v) O P) : Go p e below s R Z EL Q T (mkF m pc L (v :: S)) :=
  g_ret W hret (own_nar ht hv) (Or.inr (Or.inr (Or.inr (Or.inr ⟨rfl, ht, hv⟩)))) hd hk hs hQ
theorem g_retV (W : Wk kn p l e R s m args below meth c bytes maxL ret Z a0 EL own T O P k n) (hret : ret = none) (hd : decode bytes pc = .ok (.return_, 1)) (hk : k ≤ R.cells) (hs : n ≤ R.slots) (hQ : Q none O P) : Go p e below s R Z EL Q T (mkF m pc L []) := by
  subst hret
  obtain ⟨⟨hx, hby, -, hr, hlk, -⟩, locs, X, hS, hZ, hown, N, H, E, La⟩ := W
  obtain ⟨fs, h1, h2, h3, h4⟩ := X.leaveW hS (Nat.le_refl _) (v := none) (fun z => rfl) hlk
  exact ⟨_, _, X.returnOut hx hr (hb hby hd) h1, h2, h3, _, _, rfl, H, own_mono h4 hk hs, N, E, O, P, La, hQ⟩
end OwnSteps
/-! contracts -/
section OwnCon
variable {kn : Prop} {p : Program} {l : Launch} {e : Env} {R : Room} {s : State} {m : MethodId} {args : Array Value} {below : List Frame} {meth : Method} {c : Code} {bytes bytes' : ByteArray} {maxL maxL' : Nat} {ret ret' : Option FieldType} {Z : State} {a0 : Array Value} {EL : List (String × Nat)} {own : String} {T T' : State} {O O' P P' : List Ent} {k n k' n' : Nat} {Q Q' : Option Value → List Ent → List Ent → Prop} {g g' : JFrame} {pc q : Nat} {L : Array Slot} {S : List Value} {rm : Room} {ws : List Jvm.Cond} {as' : Array Value} {y : MethodName}
theorem con_intro (hy : plainFor y = true) (hEL : EW Z a0 EL) (ef : ∀ m, entryFrame m as' maxL = mkF m 0 L [])
    (body : ∀ p e s m below meth c T, Wk kn p l e rm s m as' below meth c bytes maxL ret Z a0 EL y.cls T O P 0 0 → meth.name = y.name → Go p e below s rm Z EL Q T (mkF m 0 L [])) : Con kn l Z EL y bytes maxL ret ws rm as' O P Q := by
  refine MetFree.of_bodySF hy hisR ?_
  intro p e s m args below meth c s₁ Bd hml0 hP hK
  obtain ⟨rfl, hZ, hC, hE, hL⟩ := hP
  have X0 : Stand p l e rm s m args below meth c s₁ [] 0 0 := Stand.of_body Bd
  have eh : s₁.heap = s.heap := by rw [Bd.state]; rfl
  have A : CHr Z EL s.vm s.heap s₁.vm s.heap := CHv.at (s := s) (vm0 := s.vm) X0 hZ hEL hC
  have W : Wk kn p l e rm s m args below meth c bytes maxL ret Z a0 EL y.cls s₁ O P 0 0 := by
    refine ⟨⟨Bd.exec, Bd.bytes, hml0, Bd.returns, Bd.notSynchronized, hEL, hK⟩, [], X0.retabled X0.warmed.wide, X0.warmed.since _, wtrans hZ X0.warmed, ?_, Fr.nil _, by rw [eh]; exact A, by rw [eh]; exact hE, by rw [eh]; exact hL.mono A ⟨Nat.le_refl _, fun _ _ q => q⟩⟩
    rw [X0.warmed.alike.findClass]; exact findClass_of_methodNamed Bd.named
  obtain ⟨t, o, h1, h2, h3, h4⟩ := body p e s m below meth c s₁ W (name_of_methodNamed Bd.named Bd.method).1
  exact ⟨t, o, by rw [ef]; exact h1, h2, h3, h4⟩
/-- who pays a call: the callee's contract -/
theorem own_back (C : Con kn l Z EL y bytes' maxL' ret' [] rm as' O P Q') (W : Wk kn p l e R s m args below meth c bytes maxL ret Z a0 EL own T O P k n) (wc : (Jvm.Cond.code y bytes' maxL' ret').before a0 Z = true) (wz : (Jvm.Cond.initialized y.cls).before a0 Z = true) {len V : Nat} (hf : rm.frames + 1 ≤ R.frames) (hl : V + (maxL' + 11) + rm.locals ≤ R.locals) :
    BackS l R p e below (s.setVm T.vm) args y len V (fun A a => a = as' ∧ A.U.heap = T.heap ∧ A.cells + rm.cells ≤ R.cells ∧ A.slots + rm.slots ≤ R.slots)
      (fun A _ v B => ∃ L, B.locs = A.locs ++ L ∧ B.cells = A.cells + rm.cells ∧ B.slots = A.slots + rm.slots ∧ Fr Z.heap.size L ∧ CHr Z EL T.vm T.heap B.U.vm B.U.heap ∧ Ext Z.heap B.U.heap ∧ ∃ O' P', Lay Z EL B.U.vm B.U.heap O' P' ∧ Q' v O' P') := by
  have hZ := W.hZ
  have hEL : EW Z a0 EL := W.1.2.2.2.2.2.1
  have hkn := W.1.2.2.2.2.2.2
  have H := W.chv
  refine BackS.of_freeWG (bytes := bytes') (maxL := maxL') (ret := ret') (E := fun _ first o t L k n => k = rm.cells ∧ n = rm.slots ∧ ∃ v, o = .returned v ∧ CHr Z EL first.vm first.heap t.vm t.heap ∧ Fr Z.heap.size L ∧ Ext Z.heap t.heap ∧ ∃ O' P', Lay Z EL t.vm t.heap O' P' ∧ Q' v O' P') C hf hl ?_ ?_ ?_ ?_ ?_
  · intro m meth c A a Y hp
    have hU : Z.Warmed39 A.U.vm := wtrans (s := s.setVm T.vm) hZ Y.warmed
    exact ⟨by show (Jvm.Cond.and _ .tt).before a A.U = true; rw [Cond.before_and, mv hU wc]; rfl, mv hU wc, mv hU wz, hp.2.2.1, hp.2.2.2⟩
  · intro m meth c A a g mk Y hp
    have B := CHv.at Y hZ hEL H
    refine ⟨hp.1, wtrans (s := s.setVm T.vm) hZ Y.warmed, ?_, ?_, ?_⟩
    · show CHv Z EL A.U.vm A.U.heap; rw [hp.2.1]; exact B.1
    · show Ext Z.heap A.U.heap; rw [hp.2.1]; exact W.old
    · show Lay Z EL A.U.vm A.U.heap O P; rw [hp.2.1]; exact W.lay.mono B ⟨Nat.le_refl _, fun _ _ q => q⟩
  · intro m meth c A a g mk Y hp hg hkk
    obtain ⟨k1, k2⟩ := hkn hkk
    obtain ⟨-, locs, X, hS, -⟩ := id W
    exact known_frames Y hg (Vm.MethodsKnown.alikeC hS.1.alike k1) (Vm.FramesKnown.alikeC hS.1.alike k2)
  · intro a first o t hQ
    obtain ⟨v, L, h1, h2, h3, h4, h5, h6⟩ := hQ
    exact ⟨L, _, _, h3, rfl, rfl, v, h1, h2, h4, h5, h6⟩
  · intro m meth c A a g mk v t L k n Y hp _ _ hE
    obtain ⟨rfl, rfl, v', e3, h2, h4, h5, h6⟩ := hE
    cases e3
    refine ⟨L, rfl, rfl, rfl, h4, (CHv.at Y hZ hEL H).trans ?_, h5, h6⟩
    rw [← hp.2.1]; exact h2
theorem own_after {A B : Pt} {v : Option Value} {vm₁ : Vm} (W : Wk kn p l e R s m args below meth c bytes maxL ret Z a0 EL own T O P k n) {locs : List Loc} (N : Fr Z.heap.size locs) (X : Stand p l e R ((s.setVm T.vm).setVm B.U.vm) m args below meth c B.U B.locs B.cells B.slots) (hS : (s.setVm T.vm).Since B.U.vm B.U.heap.size) (hle : T.heap.size ≤ B.U.heap.size)
    (hP : ∃ L, B.locs = locs ++ L ∧ B.cells = k + rm.cells ∧ B.slots = n + rm.slots ∧ Fr Z.heap.size L ∧ CHr Z EL T.vm T.heap B.U.vm B.U.heap ∧ Ext Z.heap B.U.heap ∧ ∃ O' P', Lay Z EL B.U.vm B.U.heap O' P' ∧ Q' v O' P') :
    ∃ O' P', Wk kn p l e R s m args below meth c bytes maxL ret Z a0 EL own B.U O' P' (k + rm.cells) (n + rm.slots) ∧ Q' v O' P' := by
  obtain ⟨L, h1, h2, h3, h4, h5, h6, O', P', h7, h8⟩ := hP
  rw [h1, h2, h3] at X
  exact ⟨O', P', W.coreS X hS hle (N.app h4) h5 h6 h7, h8⟩
theorem g_static (W : Wk kn p l e R s m args below meth c bytes maxL ret Z a0 EL own T O P k n) (C : Con kn l Z EL y bytes' maxL' ret' [] rm as' O P Q') {index : Nat} {argsL rest : List Value} {ps : List FieldType} {rt : Option FieldType} (has : argsL.toArray = as') (hS : S = argsL.reverse ++ rest) (hpd : parseMethodDescriptor y.desc = some ⟨ps, rt⟩) (hlen : argsL.length = ps.length)
    (w1 : (Jvm.Cond.methodLink own index y).before a0 Z = true) (w2 : (Jvm.Cond.static y).before a0 Z = true) (wz : (Jvm.Cond.initialized y.cls).before a0 Z = true) (wc : (Jvm.Cond.code y bytes' maxL' ret').before a0 Z = true) (hy : y.cls ≠ "java/lang/invoke/MethodHandle" ∧ y.cls ≠ "java/lang/invoke/VarHandle")
    (hd : decode bytes pc = .ok (.invokestatic index, 3)) (hq : pc + 3 = q) (hL : L.size = maxL) (hf : rm.frames + 1 ≤ R.frames) (hl : (rest.map fun v => v.category).sum + (maxL' + 11) + rm.locals ≤ R.locals) (hk : k + rm.cells ≤ R.cells) (hn : n + rm.slots ≤ R.slots)
    (K : ∀ v O' P' T', Q' v O' P' → Wk kn p l e R s m args below meth c bytes maxL ret Z a0 EL own T' O' P' (k + rm.cells) (n + rm.slots) → Go p e below s R Z EL Q T' (mkF m q L (v.toList ++ rest))) : Go p e below s R Z EL Q T (mkF m pc L S) := by
  subst hq; subst hS; subst has
  obtain ⟨⟨hx, hby, hml, -⟩, locs, X, -, hZ, hown, N, -⟩ := id W
  obtain ⟨v, vm₁, B, -, X1, hS1, hle, hP, st⟩ := callSS X hx (own := own) hown (mv (s := s.setVm T.vm) hZ w1) (mv (s := s.setVm T.vm) hZ w2) (mv (s := s.setVm T.vm) hZ wz) (mv (s := s.setVm T.vm) hZ wc) hy (own_back C W wc wz (len := 3) hf hl) (g := mkF m pc L (argsL.reverse ++ rest)) rfl (hL.trans hml.symm) (argsL := argsL) (rest := rest) (lenOf hpd hlen) rfl (by show 2 * 0 + _ ≤ _; omega) (hb hby hd) (fun _ _ => ⟨rfl, rfl, hk, hn⟩)
  obtain ⟨O', P', W', hQ'⟩ := own_after (A := ⟨T, locs, k, n⟩) (vm₁ := vm₁) W N X1 hS1 hle hP
  exact (K v O' P' _ hQ' W').back st
theorem g_special (W : Wk kn p l e R s m args below meth c bytes maxL ret Z a0 EL own T O P k n) (C : Con kn l Z EL y bytes' maxL' none [] rm as' O P Q') {index : Nat} {a : Addr} {argsL rest : List Value} {ps : List FieldType} {rt : Option FieldType} (hy1 : y.name = "<init>") (has : (.ref a :: argsL).toArray = as') (hS : S = argsL.reverse ++ .ref a :: rest) (hpd : parseMethodDescriptor y.desc = some ⟨ps, rt⟩) (hlen : argsL.length = ps.length)
    (w1 : (Jvm.Cond.methodLink own index y).before a0 Z = true) (w2 : (Jvm.Cond.instanceMethod y).before a0 Z = true) (wz : (Jvm.Cond.initialized y.cls).before a0 Z = true) (wc : (Jvm.Cond.code y bytes' maxL' none).before a0 Z = true) (hy : y.cls ≠ "java/lang/invoke/MethodHandle" ∧ y.cls ≠ "java/lang/invoke/VarHandle")
    (hd : decode bytes pc = .ok (.invokespecial index, 3)) (hq : pc + 3 = q) (hL : L.size = maxL) (hf : rm.frames + 1 ≤ R.frames) (hl : (rest.map fun v => v.category).sum + (maxL' + 11) + rm.locals ≤ R.locals) (hk : k + rm.cells ≤ R.cells) (hn : n + rm.slots ≤ R.slots)
    (K : ∀ v O' P' T', Q' v O' P' → Wk kn p l e R s m args below meth c bytes maxL ret Z a0 EL own T' O' P' (k + rm.cells) (n + rm.slots) → Go p e below s R Z EL Q T' (mkF m q L (v.toList ++ rest))) : Go p e below s R Z EL Q T (mkF m pc L S) := by
  subst hq; subst hS; subst has
  obtain ⟨⟨hx, hby, hml, -⟩, locs, X, -, hZ, hown, N, -⟩ := id W
  obtain ⟨v, vm₁, B, -, X1, hS1, hle, hP, st⟩ := X.specialBackS hx hy1 (own := own) hown (mv (s := s.setVm T.vm) hZ w1) (mv (s := s.setVm T.vm) hZ w2) (mv (s := s.setVm T.vm) hZ wc) hy (own_back C W wc wz (len := 3) hf hl) (g := mkF m pc L (argsL.reverse ++ .ref a :: rest)) rfl (hL.trans hml.symm) (Steps.refl _) (a := a) (argsL := argsL) (rest := rest) (lenOf hpd hlen) rfl (by show 2 * 0 + _ ≤ _; omega) (hb hby hd) (fun _ _ => ⟨rfl, rfl, hk, hn⟩)
  obtain ⟨O', P', W', hQ'⟩ := own_after (A := ⟨T, locs, k, n⟩) (vm₁ := vm₁) W N X1 hS1 hle hP
  exact (K v O' P' _ hQ' W').back st
theorem g_virtual (W : Wk kn p l e R s m args below meth c bytes maxL ret Z a0 EL own T O P k n) (C : Con kn l Z EL y bytes' maxL' ret' [] rm as' O P Q') {index : Nat} {a : Addr} {D : String} {argsL rest : List Value} {ps : List FieldType} {rt : Option FieldType} (hK : ∃ c, T.heap[a]? = some c ∧ ExaC Z D c) (has : (.ref a :: argsL).toArray = as') (hS : S = argsL.reverse ++ .ref a :: rest) (hpd : parseMethodDescriptor y.desc = some ⟨ps, rt⟩) (hlen : argsL.length = ps.length)
    (w1 : (Jvm.Cond.methodLink own index y).before a0 Z = true) (w2 : (Jvm.Cond.declares y).before a0 Z = true) (w3 : (Jvm.Cond.selects D y y).before a0 Z = true) (w4 : (Jvm.Cond.instanceMethod y).before a0 Z = true) (wz : (Jvm.Cond.initialized y.cls).before a0 Z = true) (wc : (Jvm.Cond.code y bytes' maxL' ret').before a0 Z = true) (hy : y.cls ≠ "java/lang/invoke/MethodHandle" ∧ y.cls ≠ "java/lang/invoke/VarHandle")
    (hd : decode bytes pc = .ok (.invokevirtual index, 3)) (hq : pc + 3 = q) (hL : L.size = maxL) (hf : rm.frames + 1 ≤ R.frames) (hl : (rest.map fun v => v.category).sum + (maxL' + 11) + rm.locals ≤ R.locals) (hk : k + rm.cells ≤ R.cells) (hn : n + rm.slots ≤ R.slots)
    (K : ∀ v O' P' T', Q' v O' P' → Wk kn p l e R s m args below meth c bytes maxL ret Z a0 EL own T' O' P' (k + rm.cells) (n + rm.slots) → Go p e below s R Z EL Q T' (mkF m q L (v.toList ++ rest))) : Go p e below s R Z EL Q T (mkF m pc L S) := by
  subst hq; subst hS; subst has
  obtain ⟨cl, q1, q2⟩ := hK
  obtain ⟨⟨hx, hby, hml, -⟩, locs, X, -, hZ, hown, N, -⟩ := id W
  obtain ⟨cB, kB, b1, -, b3⟩ := isOf (s := s.setVm T.vm) (T := T) hZ rfl (q2.exa q1)
  obtain ⟨v, vm₁, B, -, X1, hS1, hle, hP, st⟩ := X.virtualBackS hx (y := y) (z := y) (own := own) hown (mvT (s := s.setVm T.vm) hZ w1) (mvT (s := s.setVm T.vm) hZ w2) (notFace_of_selects (args := #[]) (mvT (s := s.setVm T.vm) hZ w3)) (mvT (s := s.setVm T.vm) hZ w3) (mvT (s := s.setVm T.vm) hZ w4) hy (own_back C W wc wz (len := 3) hf hl) b1 b3 (g := mkF m pc L (argsL.reverse ++ .ref a :: rest)) rfl (hL.trans hml.symm) (Steps.refl _) (argsL := argsL) (rest := rest) (lenOf hpd hlen) rfl (by show 2 * 0 + _ ≤ _; omega) (hb hby hd) (fun _ _ => ⟨rfl, rfl, hk, hn⟩)
  obtain ⟨O', P', W', hQ'⟩ := own_after (A := ⟨T, locs, k, n⟩) (vm₁ := vm₁) W N X1 hS1 hle hP
  exact (K v O' P' _ hQ' W').back st
theorem g_iface {yi : MethodName} (W : Wk kn p l e R s m args below meth c bytes maxL ret Z a0 EL own T O P k n) (C : Con kn l Z EL y bytes' maxL' ret' [] rm as' O P Q') {index count : Nat} {a : Addr} {D : String} {argsL rest : List Value} {ps : List FieldType} {rt : Option FieldType} (hK : ∃ c, T.heap[a]? = some c ∧ ExaC Z D c) (has : (.ref a :: argsL).toArray = as') (hS : S = argsL.reverse ++ .ref a :: rest) (hpd : parseMethodDescriptor yi.desc = some ⟨ps, rt⟩) (hlen : argsL.length = ps.length)
    (w1 : (Jvm.Cond.methodLink own index yi).before a0 Z = true) (w2 : (Jvm.Cond.declares yi).before a0 Z = true) (w3 : (Jvm.Cond.interfaceMethod yi.cls yi.cls yi.name yi.desc).before a0 Z = true) (hfa : ((Jvm.Cond.interfaceMethod yi.cls yi.cls yi.name yi.desc).onTables && (Jvm.Cond.interfaceMethod yi.cls yi.cls yi.name yi.desc).keepsFace) = true) (w4 : (Jvm.Cond.selects D yi y).before a0 Z = true) (w5 : (Jvm.Cond.instanceMethod y).before a0 Z = true) (w6 : (Jvm.Cond.publicMethod y).before a0 Z = true) (w7 : (Jvm.Cond.unhidden D yi.name yi.desc).before a0 Z = true) (w8 : (Jvm.Cond.castable D yi.cls).before a0 Z = true) (wz : (Jvm.Cond.initialized y.cls).before a0 Z = true) (wc : (Jvm.Cond.code y bytes' maxL' ret').before a0 Z = true) (hy : yi.cls ≠ "java/lang/invoke/MethodHandle" ∧ yi.cls ≠ "java/lang/invoke/VarHandle")
    (hd : decode bytes pc = .ok (.invokeinterface index count, 5)) (hq : pc + 5 = q) (hL : L.size = maxL) (hf : rm.frames + 1 ≤ R.frames) (hl : (rest.map fun v => v.category).sum + (maxL' + 11) + rm.locals ≤ R.locals) (hk : k + rm.cells ≤ R.cells) (hn : n + rm.slots ≤ R.slots)
    (K : ∀ v O' P' T', Q' v O' P' → Wk kn p l e R s m args below meth c bytes maxL ret Z a0 EL own T' O' P' (k + rm.cells) (n + rm.slots) → Go p e below s R Z EL Q T' (mkF m q L (v.toList ++ rest))) : Go p e below s R Z EL Q T (mkF m pc L S) := by
  subst hq; subst hS; subst has
  obtain ⟨cl, q1, q2⟩ := hK
  obtain ⟨⟨hx, hby, hml, -⟩, locs, X, -, hZ, hown, N, -⟩ := id W
  obtain ⟨cB, kB, b1, b2, b3⟩ := isOf (s := s.setVm T.vm) (T := T) hZ rfl (q2.exa q1)
  obtain ⟨v, vm₁, B, -, X1, hS1, hle, hP, st⟩ := X.interfaceBackS hx (xi := yi) (y := y) (own := own) hown (mvT (s := s.setVm T.vm) hZ w1) (mvT (s := s.setVm T.vm) hZ w2) (mvT (s := s.setVm T.vm) hZ w3 hfa) (mvT (s := s.setVm T.vm) hZ w4) (mvT (s := s.setVm T.vm) hZ w5) (mvT (s := s.setVm T.vm) hZ w6) (mvT (s := s.setVm T.vm) hZ w7) (mvT (s := s.setVm T.vm) hZ w8) hy (own_back C W wc wz (len := 5) hf hl) b1 b2 b3 (g := mkF m pc L (argsL.reverse ++ .ref a :: rest)) rfl (hL.trans hml.symm) (Steps.refl _) (argsL := argsL) (rest := rest) (lenOf hpd hlen) rfl (by show 2 * 0 + _ ≤ _; omega) (hb hby hd) (fun _ _ => ⟨rfl, rfl, hk, hn⟩)
  obtain ⟨O', P', W', hQ'⟩ := own_after (A := ⟨T, locs, k, n⟩) (vm₁ := vm₁) W N X1 hS1 hle hP
  exact (K v O' P' _ hQ' W').back st
end OwnCon
theorem own_w {Z : State} {a0 : Array Value} (hw : ∀ d ∈ tables_1, d.before a0 Z = true) (i : Nat) {d : Jvm.Cond} (h : tables_1[i]? = some d) : d.before a0 Z = true := hw _ (List.mem_of_getElem? h)
theorem own_s {L : List Jvm.Cond} {Z : State} {a0 : Array Value} (hw : ∀ d ∈ L, d.before a0 Z = true) (i : Nat) {d : Jvm.Cond} (h : L[i]? = some d) : d.before a0 Z = true := hw _ (List.mem_of_getElem? h)
theorem own_i32 {i : Nat} (h : i < 2 ^ 31) : i.toInt32.toInt = i := len_toInt h
theorem own_nn {i : Nat} (h : i < 2 ^ 31) : ¬ i.toInt32 < 0 := fun z => by rw [Int32.lt_iff_toInt_lt, own_i32 h] at z; exact absurd z (by simp)
theorem own_clamp {i : Nat} (h : i < 2 ^ 31) : i.toInt32.toNatClampNeg = i := by simp only [Int32.toNatClampNeg, own_i32 h]; rfl
theorem own_lt {i j : Nat} (hi : i < 2 ^ 31) (hj : j < 2 ^ 31) : i.toInt32 < j.toInt32 ↔ i < j := by rw [Int32.lt_iff_toInt_lt, own_i32 hi, own_i32 hj]; omega
theorem own_eq {i j : Nat} (hi : i < 2 ^ 31) (hj : j < 2 ^ 31) : i.toInt32 = j.toInt32 ↔ i = j := by rw [← Int32.toInt_inj, own_i32 hi, own_i32 hj]; omega
theorem own_succ {i : Nat} (h : i + 1 < 2 ^ 31) : i.toInt32 + Int32.ofInt 1 = (i + 1).toInt32 := by
  rw [← Int32.toInt_inj, own_i32 h, Int32.toInt_add, own_i32 (by omega)]
  show ((i : Int) + 1).bmod (2 ^ 32) = _
  rw [Int.bmod_eq_of_le (by omega) (by omega)]; omega
theorem own_chr {x : Int32} (h : 0 ≤ x.toInt ∧ x.toInt < 65536) : x.toUInt32.toUInt16.toUInt32.toInt32 = x := by
  have := c_i2c x
  rw [← Int32.toInt_inj]; omega
/-- the bytes that spell the chars, Latin-1 -/
def enc (cs : List Int32) : List Value := cs.map fun c => .int c.toInt8.toInt32
theorem enc_len (cs : List Int32) : (enc cs).length = cs.length := by simp [enc]
theorem own_fill {cs : List Int32} {i : Nat} {c : Int32} (h : cs[i]? = some c) : (enc (cs.take i) ++ List.replicate (cs.length - i) (Value.int 0)).set i (.int c.toInt8.toInt32) = enc (cs.take (i + 1)) ++ List.replicate (cs.length - (i + 1)) (Value.int 0) := by
  have hi : i < cs.length := (List.getElem?_eq_some_iff.mp h).1
  have e1 : cs.length - i = (cs.length - (i + 1)) + 1 := by omega
  have e2 : (enc (cs.take i)).length = i := by rw [enc_len, List.length_take]; omega
  have e3 : cs.take (i + 1) = cs.take i ++ [c] := by rw [List.take_add_one, h]; rfl
  rw [List.set_append_right _ _ (by omega), e2, Nat.sub_self, e1, List.replicate_succ, List.set_cons_zero, e3]
  simp [enc]
theorem enc_fits {cs : List Int32} : ∀ v ∈ enc cs, fits .byte v = true := fun v hv => by
  obtain ⟨x, -, rfl⟩ := List.mem_map.mp hv; exact fits_nar_byte x
section OwnCopy
variable {kn : Prop} {p : Program} {l : Launch} {e : Env} {R : Room} {s : State} {m : MethodId} {args : Array Value} {below : List Frame} {meth : Method} {c : Code} {bytes : ByteArray} {maxL : Nat} {ret : Option FieldType} {Z : State} {a0 : Array Value} {EL : List (String × Nat)} {own : String} {T T' : State} {O O' P P' : List Ent} {k n k' n' : Nat} {Q : Option Value → List Ent → List Ent → Prop} {g g' : JFrame} {pc q : Nat} {L : Array Slot} {S : List Value}
theorem g_ldcJ (W : Wk kn p l e R s m args below meth c bytes maxL ret Z a0 EL own T O P k n) {index : Nat} {v : Int64} (w : (Jvm.Cond.constantLong own index v).before a0 Z = true) (hd : decode bytes pc = .ok (.ldc2_w index, 3)) (hq : pc + 3 = q) (K : Go p e below s R Z EL Q T (mkF m q L (.long v :: S))) : Go p e below s R Z EL Q T (mkF m pc L S) := by
  subst hq
  obtain ⟨⟨hx, hby, -⟩, locs, X, -, hZ, hown, -⟩ := W
  exact K.step fun t hr => Stand.ldc2J X hx (own := own) hown (mv (s := s.setVm T.vm) hZ w) rfl (hb hby hd) hr
theorem ArrC.arv {h : Heap} {a : Addr} {cl : Cell} {ty : FieldType} {vs : List Value} {dv : Value} (q : h[a]? = some cl) (F : ArrC Z ty vs cl) : Arv Z h a cl.cls ty vs.length.toInt32 vs dv := by
  have hl := F.2.2.2.2
  have hs := F.size
  refine ⟨cl, F.arr q, rfl, by rw [own_clamp hl, hs], own_nn hl, fun j hj => ?_, fun j hj => ?_⟩
  · rw [List.getD_eq_getElem?_getD, List.getElem?_eq_getElem (by omega)]
    exact F.at (List.getElem?_eq_getElem (by omega))
  · rw [List.getD_eq_getElem?_getD, List.getElem?_eq_getElem (by omega)]
    exact F.2.2.2.1 _ (List.getElem_mem _)
theorem own_arrC {h : Heap} {a : Addr} {k : ClassId} {ty : FieldType} {vs : List Value} {dv : Value} (F : Arv Z h a k ty vs.length.toInt32 vs dv) (hl : vs.length < 2 ^ 31) : ∃ cl, h[a]? = some cl ∧ ArrC Z ty vs cl := by
  obtain ⟨cl, A, -, hs, -, H, G⟩ := F
  rw [own_clamp hl] at hs
  refine ⟨cl, A.1, A.2.1, A.2.2, List.ext_getElem? fun i => ?_, fun v hv => ?_, hl⟩
  · rcases Nat.lt_or_ge i vs.length with z | z
    · have e1 := H i (by omega)
      rw [Array.getElem?_toList, e1, List.getD_eq_getElem?_getD, List.getElem?_eq_getElem z]; rfl
    · rw [List.getElem?_eq_none z, List.getElem?_eq_none (by simpa [hs] using z)]
  · obtain ⟨i, hi, rfl⟩ := List.mem_iff_getElem.mp hv
    have := G i (by omega)
    rwa [List.getD_eq_getElem?_getD, List.getElem?_eq_getElem hi] at this
theorem own_slice {vs : List Value} {dv : Value} {sp nn : Nat} (h : sp + nn ≤ vs.length) : (List.range nn).map (fun i => vs.getD (sp + i) dv) = (vs.drop sp).take nn := by
  refine List.ext_getElem? fun i => ?_
  rw [List.getElem?_map]
  rcases Nat.lt_or_ge i nn with z | z
  · rw [List.getElem?_range z, List.getElem?_take_of_lt z, List.getElem?_drop, List.getElem?_eq_getElem (by omega)]
    simp only [Option.map_some, List.getD_eq_getElem?_getD, List.getElem?_eq_getElem (show sp + i < vs.length by omega)]; rfl
  · rw [List.getElem?_eq_none (by simpa using z), List.getElem?_eq_none (by simp; omega)]; rfl
/-- System.arraycopy between two arrays of one primitive kind, the goal owned -/
theorem g_copy (W : Wk kn p l e R s m args below meth c bytes maxL ret Z a0 EL own T O P k n) {index i sp dp nn : Nat} {a b : Addr} {ty : FieldType} {vs vd vd' : List Value} {zs zd zn : Int32} (hK : ∃ c, T.heap[a]? = some c ∧ ArrC Z ty vs c) (hi : O[i]? = some (b, ArrC Z ty vd)) (hty : refKind ty = false) (e1 : sp.toInt32 = zs) (e2 : dp.toInt32 = zd) (e3 : nn.toInt32 = zn) (h1 : sp + nn ≤ vs.length) (h2 : dp + nn ≤ vd.length)
    (w1 : (Jvm.Cond.methodLink own index Jvm.Stand.acN).before a0 Z = true) (w2 : (Jvm.Cond.native Jvm.Stand.acN).before a0 Z = true) (w3 : (Jvm.Cond.static Jvm.Stand.acN).before a0 Z = true) (w4 : (Jvm.Cond.initialized "java/lang/System").before a0 Z = true)
    (hd : decode bytes pc = .ok (.invokestatic index, 3)) (hq : pc + 3 = q) (hL : L.size = maxL) (hf : 1 ≤ R.frames) (hl : (S.map fun v => v.category).sum + (nativeFrameWords "java/lang/System" "arraycopy" 5 + 11) ≤ R.locals) (hvd : vd.take dp ++ (vs.drop sp).take nn ++ vd.drop (dp + nn) = vd') (hO : O.set i (b, ArrC Z ty vd') = O')
    (K : ∀ T', Wk kn p l e R s m args below meth c bytes maxL ret Z a0 EL own T' O' P k n → Go p e below s R Z EL Q T' (mkF m q L S)) : Go p e below s R Z EL Q T (mkF m pc L (.int zn :: .int zd :: .ref b :: .int zs :: .ref a :: S)) := by
  subst hq; subst hO; subst e1; subst e2; subst e3
  obtain ⟨cl, q1, q2⟩ := hK
  obtain ⟨cb, r1, r2⟩ := W.ow hi
  have l1 := q2.2.2.2.2
  have l2 := r2.2.2.2.2
  obtain ⟨⟨hx, hby, hml, -⟩, locs, X, -, hZ, hown, N, -⟩ := id W
  have hlen : vd'.length = vd.length := by rw [← hvd]; simp; omega
  obtain ⟨T1, h1', L1, X1, eh, N1, K1, A1, st⟩ := cpA X hx (s := s.setVm T.vm) hZ hown w1 w2 w3 w4 rfl (q2.arv (dv := .null) q1) (r2.arv (dv := .null) r1) (Or.inl ⟨rfl, hty⟩) (own_nn (i := sp) (by omega)) (own_nn (i := dp) (by omega)) (own_nn (i := nn) (by omega)) (by rw [own_clamp (by omega), own_clamp (by omega), own_clamp l1]; exact h1) (by rw [own_clamp (by omega), own_clamp (by omega), own_clamp l2]; exact h2) rfl (by rw [own_clamp (by omega), own_clamp (by omega)]; exact h2) N (W.fr hi) (g := mkF m pc L (.int nn.toInt32 :: .int dp.toInt32 :: .ref b :: .int sp.toInt32 :: .ref a :: S)) rfl (hL.trans hml.symm) rfl (hb hby hd) hf (W := (S.map fun v => v.category).sum) (by show 2 * 0 + _ ≤ _; omega) hl
  subst eh
  have e5 : vd.take dp.toInt32.toNatClampNeg ++ (List.range nn.toInt32.toNatClampNeg).map (fun i => vs.getD (sp.toInt32.toNatClampNeg + i) .null) ++ vd.drop (dp.toInt32.toNatClampNeg + nn.toInt32.toNatClampNeg) = vd' := by
    rw [own_clamp (by omega), own_clamp (by omega), own_clamp (by omega), own_slice h1, hvd]
  rw [e5, ← hlen] at A1
  exact (K T1 (W.wrote X1 hi K1 N1 (own_arrC A1 (by omega)))).step st
end OwnCopy
section OwnPriv
variable {kn : Prop} {p : Program} {l : Launch} {e : Env} {R : Room} {s : State} {m : MethodId} {args : Array Value} {below : List Frame} {meth : Method} {c : Code} {bytes bytes' : ByteArray} {maxL maxL' : Nat} {ret ret' : Option FieldType} {Z : State} {a0 : Array Value} {EL : List (String × Nat)} {own : String} {T T' : State} {O O' P P' : List Ent} {k n k' n' : Nat} {Q Q' : Option Value → List Ent → List Ent → Prop} {g g' : JFrame} {pc q : Nat} {L : Array Slot} {S : List Value} {rm : Room} {ws : List Jvm.Cond} {as' : Array Value} {y : MethodName}
theorem g_private (W : Wk kn p l e R s m args below meth c bytes maxL ret Z a0 EL own T O P k n) (C : Con kn l Z EL y bytes' maxL' ret' [] rm as' O P Q') {index ni : Nat} {a : Addr} {argsL rest : List Value} {ps : List FieldType} {rt : Option FieldType} (hK : ∃ c, T.heap[a]? = some c ∧ ExaC Z y.cls c) (has : (.ref a :: argsL).toArray = as') (hS : S = argsL.reverse ++ .ref a :: rest) (hpd : parseMethodDescriptor y.desc = some ⟨ps, rt⟩) (hlen : argsL.length = ps.length)
    (w1 : (Jvm.Cond.methodLink own index y).before a0 Z = true) (w4 : (Jvm.Cond.instanceMethod y).before a0 Z = true) (wp : (Jvm.Cond.privateMethod y).before a0 Z = true) (wi : (Jvm.Cond.instantiable y.cls ni).before a0 Z = true) (wz : (Jvm.Cond.initialized y.cls).before a0 Z = true) (wc : (Jvm.Cond.code y bytes' maxL' ret').before a0 Z = true) (hy : y.cls ≠ "java/lang/invoke/MethodHandle" ∧ y.cls ≠ "java/lang/invoke/VarHandle")
    (hd : decode bytes pc = .ok (.invokevirtual index, 3)) (hq : pc + 3 = q) (hL : L.size = maxL) (hf : rm.frames + 1 ≤ R.frames) (hl : (rest.map fun v => v.category).sum + (maxL' + 11) + rm.locals ≤ R.locals) (hk : k + rm.cells ≤ R.cells) (hn : n + rm.slots ≤ R.slots)
    (K : ∀ v O' P' T', Q' v O' P' → Wk kn p l e R s m args below meth c bytes maxL ret Z a0 EL own T' O' P' (k + rm.cells) (n + rm.slots) → Go p e below s R Z EL Q T' (mkF m q L (v.toList ++ rest))) : Go p e below s R Z EL Q T (mkF m pc L S) := by
  subst hq; subst hS; subst has
  obtain ⟨cl, q1, q2⟩ := hK
  obtain ⟨⟨hx, hby, hml, -⟩, locs, X, -, hZ, hown, N, -⟩ := id W
  have hp : (Jvm.Cond.privateMethod y).before args (s.setVm T.vm) = true := mvP (s := s.setVm T.vm) hZ wp
  have h4 : (Jvm.Cond.instanceMethod y).before args (s.setVm T.vm) = true := mvT (s := s.setVm T.vm) hZ w4
  obtain ⟨v, vm₁, B, -, X1, hS1, hle, hP, st⟩ := X.privateBackS hx (y := y) (own := own) hown (mvT (s := s.setVm T.vm) hZ w1) h4 (Jvm.Kit.selects_private hy (mvT (s := s.setVm T.vm) hZ wi) hp h4) (Cond.privateMethod_at hp) (mvT (s := s.setVm T.vm) hZ wc) hy (own_back C W wc wz (len := 3) hf hl) (g := mkF m pc L (argsL.reverse ++ .ref a :: rest)) rfl (hL.trans hml.symm) (Steps.refl _) (a := a) q1 (fun z e => by have := q2.choose_spec.2.2.1; rw [e] at this; cases this) (argsL := argsL) (rest := rest) (lenOf hpd hlen) rfl (by show 2 * 0 + _ ≤ _; omega) (hb hby hd) (fun _ _ => ⟨rfl, rfl, hk, hn⟩)
  obtain ⟨O', P', W', hQ'⟩ := own_after (A := ⟨T, locs, k, n⟩) (vm₁ := vm₁) W N X1 hS1 hle hP
  exact (K v O' P' _ hQ' W').back st
end OwnPriv

theorem lit_18 : (∀ c ∈ ("" : String).toList, c.toNat < 256) ∧ ("" : String).toList.map (fun c => Value.int (Jvm.Lit.byteI c.toNat.toUInt16)) = enc [] := by decide +kernel
def EL0 : List (String × Nat) := [("java/lang/String", 7)]
def Env0 (Z : State) (a0 : Array Value) : Prop := (∀ d ∈ tables_1, d.before a0 Z = true) ∧ (∀ d ∈ jdkStatics_1, d.before a0 Z = true) ∧ EW Z a0 EL0 ∧ (∀ a ∈ Bundle.stringAtoms, a.before a0 Z = true) ∧ (∃ b : Int32, Sta Z Z.heap "java/lang/String" "COMPACT_STRINGS" "Z" (.int b) ∧ ¬ b = 0) ∧ (∃ fv : Value, Sta Z Z.heap "jdk/internal/util/Preconditions" "SIOOBE_FORMATTER" "Ljava/util/function/BiFunction;" fv ∧ fv.isRef = true) ∧ Sta Z Z.heap "java/lang/StringUTF16" "$assertionsDisabled" "Z" (.int (1 : Int32)) ∧ Sta Z Z.heap "java/lang/StringUTF16" "HI_BYTE_SHIFT" "I" (.int (0 : Int32)) ∧ Sta Z Z.heap "java/lang/StringUTF16" "LO_BYTE_SHIFT" "I" (.int (8 : Int32))
theorem own_fill0 {cs : List Int32} {i : Nat} (h : i < cs.length) : (enc (cs.take i) ++ List.replicate (cs.length - i) (Value.int 0))[i]? = some (.int 0) := by
  have e2 : (enc (cs.take i)).length = i := by rw [enc_len, List.length_take]; omega
  rw [List.getElem?_append_right (by omega), e2, Nat.sub_self, List.getElem?_replicate]; simp; omega
theorem own_narb (d : Int32) : nar .byte d.toInt8.toInt32 = d.toInt8.toInt32 := by simp [nar]
/-- the String x spells cs, each 0 to 255 -/
def IsL1 (Z : State) (P : List Ent) (x : Addr) (cs : List Int32) : Prop := ∃ b, (x, ObjC Z "java/lang/String" shStr [.ref b, .int (0 : Int32)]) ∈ P ∧ (b, ArrC Z .byte (enc cs)) ∈ P
theorem IsL1.up {Z : State} {P P' : List Ent} {x : Addr} {cs : List Int32} (h : IsL1 Z P x cs) (hs : ∀ y ∈ P, y ∈ P') : IsL1 Z P' x cs := by obtain ⟨b, h1, h2⟩ := h; exact ⟨b, hs _ h1, hs _ h2⟩
theorem shStr_nd : (shStr.map (·.2.1)).Nodup := by decide +kernel
theorem shStr_ds : shStr.map (fun f => (parseFieldDescriptor f.2.2).map defaultValue) = [Value.null, .int 0].map some := by decide +kernel
theorem own_shr0 (x : Int32) : x >>> ((0 : Int32) &&& 31) = x := by
  have := c_ishr x 0 0 (by decide)
  rw [← Int32.toInt_inj, this]; simp
theorem own_b2c {c : Int32} (h : 0 ≤ c.toInt ∧ c.toInt ≤ 255) : c.toInt8.toInt32 &&& (255 : Int32) = c := by
  have h1 := c_i2b c
  have h2 := c_mask c.toInt8.toInt32 255 8 (by decide) (by decide)
  rw [← Int32.toInt_inj, h2]; omega
theorem own_b2inj {c d : Int32} (h : 0 ≤ c.toInt ∧ c.toInt ≤ 255) (h2 : 0 ≤ d.toInt ∧ d.toInt ≤ 255) (e : c.toInt8.toInt32 = d.toInt8.toInt32) : c = d := by
  rw [← own_b2c h, ← own_b2c h2, e]
theorem own_narcR {c : Int32} (h : 0 ≤ c.toInt ∧ c.toInt < 65536) : narrow .char (.int c) = .int c := congrArg Value.int (own_chr h)
theorem own_ext {cs ds : List Int32} (h : cs.length = ds.length) (e : ∀ t, t < cs.length → cs[t]? = ds[t]?) : cs = ds := List.ext_getElem? fun t => by
  rcases Nat.lt_or_ge t cs.length with q | q
  · exact e t q
  · rw [List.getElem?_eq_none q, List.getElem?_eq_none (by omega)]
theorem own_ex {h : Heap} {a : Addr} {φ ψ : Cell → Prop} (H : ∃ c, h[a]? = some c ∧ φ c) (f : ∀ c, φ c → ψ c) : ∃ c, h[a]? = some c ∧ ψ c := by obtain ⟨c, h1, h2⟩ := H; exact ⟨c, h1, f c h2⟩
theorem own_and255 (x : Int32) : 0 ≤ (x &&& (255 : Int32)).toInt ∧ (x &&& (255 : Int32)).toInt ≤ 255 := c_and x 255 (by decide)
theorem own_chr255 (x : Int32) : (x &&& (255 : Int32)).toUInt32.toUInt16.toUInt32.toInt32 = (x &&& (255 : Int32)) := own_chr (by have := own_and255 x; omega)
theorem own_narc {c : Int32} (h : 0 ≤ c.toInt ∧ c.toInt < 65536) : nar .char c = c := own_chr h
theorem own_narc255 (x : Int32) : nar .char (x &&& (255 : Int32)) = (x &&& (255 : Int32)) := own_chr255 x
theorem own_gt255 {x : Int32} (h : 0 ≤ x.toInt ∧ x.toInt ≤ 255) : ¬ (255 : Int32) < x := fun z => by
  rw [Int32.lt_iff_toInt_lt] at z; have e : (255 : Int32).toInt = 255 := by decide
  omega
theorem own_le255 (x : Int32) : ¬ (255 : Int32) < (x &&& (255 : Int32)) := own_gt255 (own_and255 x)
theorem own_latOf {cs : List Int32} (h : ∀ d ∈ cs, 0 ≤ d.toInt ∧ d.toInt ≤ 255) : ∀ (j : Nat) (d : Int32), cs[j]? = some d → ¬ (255 : Int32) < d := fun j d q => own_gt255 (h d (List.mem_of_getElem? q))
/-- the bytes of the chars, two each, the low one first -/
def enc16 (cs : List Int32) : List Value := cs.flatMap fun c => [.int c.toInt8.toInt32, .int (c >>> ((8 : Int32) &&& 31)).toInt8.toInt32]
theorem enc16_len : ∀ (cs : List Int32), (enc16 cs).length = 2 * cs.length
  | [] => rfl
  | c :: cs => by
    show (_ :: _ :: enc16 cs).length = _
    simp only [List.length_cons, enc16_len cs]; omega
theorem enc16_app (cs ds : List Int32) : enc16 (cs ++ ds) = enc16 cs ++ enc16 ds := by simp [enc16]
theorem enc16_at : ∀ {cs : List Int32} {i : Nat} {c : Int32}, cs[i]? = some c → (enc16 cs)[2 * i]? = some (.int c.toInt8.toInt32) ∧ (enc16 cs)[2 * i + 1]? = some (.int (c >>> ((8 : Int32) &&& 31)).toInt8.toInt32)
  | [], i, c, h => by simp at h
  | d :: cs, 0, c, h => by cases h; exact ⟨rfl, rfl⟩
  | d :: cs, i + 1, c, h => by
    have := enc16_at (cs := cs) (i := i) (c := c) h
    exact ⟨(by rw [show 2 * (i + 1) = 2 * i + 1 + 1 by omega]; exact this.1), (by rw [show 2 * (i + 1) + 1 = 2 * i + 1 + 1 + 1 by omega]; exact this.2)⟩
def fill16 (cs : List Int32) (i : Nat) : List Value := enc16 (cs.take i) ++ List.replicate (2 * (cs.length - i)) (Value.int 0)
theorem fill16_len {cs : List Int32} {i : Nat} (h : i ≤ cs.length) : (fill16 cs i).length = 2 * cs.length := by
  simp only [fill16, List.length_append, enc16_len, List.length_take, List.length_replicate]; omega
theorem fill16_z {cs : List Int32} {i j : Nat} (h : i < cs.length) (hj : j = 2 * i ∨ j = 2 * i + 1) : (fill16 cs i)[j]? = some (.int 0) := by
  have e2 : (enc16 (cs.take i)).length = 2 * i := by rw [enc16_len, List.length_take]; omega
  rw [fill16, List.getElem?_append_right (by omega), List.getElem?_replicate, if_pos (by omega)]
theorem fill16_step {cs : List Int32} {i : Nat} {c : Int32} (h : cs[i]? = some c) : ((fill16 cs i).set (2 * i) (.int c.toInt8.toInt32)).set (2 * i + 1) (.int (c >>> ((8 : Int32) &&& 31)).toInt8.toInt32) = fill16 cs (i + 1) := by
  have hi : i < cs.length := (List.getElem?_eq_some_iff.mp h).1
  have e2 : (enc16 (cs.take i)).length = 2 * i := by rw [enc16_len, List.length_take]; omega
  have e1 : 2 * (cs.length - i) = 2 * (cs.length - (i + 1)) + 1 + 1 := by omega
  have e3 : cs.take (i + 1) = cs.take i ++ [c] := by rw [List.take_add_one, h]; rfl
  rw [fill16, fill16, List.set_append_right _ _ (by omega), e2, Nat.sub_self, e1, List.replicate_succ, List.replicate_succ, List.set_cons_zero, List.set_append_right _ _ (by omega), e2, show 2 * i + 1 - 2 * i = 0 + 1 by omega, List.set_cons_succ, List.set_cons_zero, e3, enc16_app]
  simp [enc16]
theorem own_shl1 {i : Nat} (h : 2 * i < 2 ^ 31) : i.toInt32 <<< ((1 : Int32) &&& 31) = (2 * i).toInt32 := by
  have h1 := c_ishl i.toInt32 1 1 (by decide)
  rw [own_i32 (by omega)] at h1
  have h2 := rng32 (i.toInt32 <<< ((1 : Int32) &&& 31))
  rw [← Int32.toInt_inj, own_i32 h]; omega
theorem own_shr1 {i : Nat} (h : 2 * i < 2 ^ 31) : (2 * i).toInt32 >>> ((1 : Int32) &&& 31) = i.toInt32 := by
  have h1 := c_ishr (2 * i).toInt32 1 1 (by decide)
  rw [own_i32 h] at h1
  rw [← Int32.toInt_inj, h1, own_i32 (by omega)]; omega
theorem own_lo {c : Int32} : (c.toInt8.toInt32 &&& (255 : Int32)).toInt = c.toInt % 256 := by
  have h1 := c_i2b c
  have h2 := c_mask c.toInt8.toInt32 255 8 (by decide) (by decide)
  rw [h2]; omega
theorem own_get16 {c : Int32} (h : 0 ≤ c.toInt ∧ c.toInt < 65536) : (((c.toInt8.toInt32 &&& (255 : Int32)) <<< ((0 : Int32) &&& 31)) ||| (((c >>> ((8 : Int32) &&& 31)).toInt8.toInt32 &&& (255 : Int32)) <<< ((8 : Int32) &&& 31))) = c := by
  have l1 := own_lo (c := c)
  have l2 := own_lo (c := c >>> ((8 : Int32) &&& 31))
  have s1 := c_ishr c 8 8 (by decide)
  have s2 := c_ishl (c.toInt8.toInt32 &&& (255 : Int32)) 0 0 (by decide)
  have s3 := c_ishl ((c >>> ((8 : Int32) &&& 31)).toInt8.toInt32 &&& (255 : Int32)) 8 8 (by decide)
  have r2 := rng32 ((c.toInt8.toInt32 &&& (255 : Int32)) <<< ((0 : Int32) &&& 31))
  have r3 := rng32 (((c >>> ((8 : Int32) &&& 31)).toInt8.toInt32 &&& (255 : Int32)) <<< ((8 : Int32) &&& 31))
  have a2 : ((c.toInt8.toInt32 &&& (255 : Int32)) <<< ((0 : Int32) &&& 31)).toInt = c.toInt % 256 := by omega
  have a3 : (((c >>> ((8 : Int32) &&& 31)).toInt8.toInt32 &&& (255 : Int32)) <<< ((8 : Int32) &&& 31)).toInt = c.toInt / 256 * 256 := by omega
  have o := c_or' ((c.toInt8.toInt32 &&& (255 : Int32)) <<< ((0 : Int32) &&& 31)) (((c >>> ((8 : Int32) &&& 31)).toInt8.toInt32 &&& (255 : Int32)) <<< ((8 : Int32) &&& 31)) 8 (by decide) 256 (by decide) (by omega) (by omega) (by omega)
  have r4 := rng32 (((c.toInt8.toInt32 &&& (255 : Int32)) <<< ((0 : Int32) &&& 31)) ||| (((c >>> ((8 : Int32) &&& 31)).toInt8.toInt32 &&& (255 : Int32)) <<< ((8 : Int32) &&& 31)))
  rw [← Int32.toInt_inj]; omega
def Lat (cs : List Int32) : Prop := ∀ (j : Nat) (d : Int32), cs[j]? = some d → ¬ (255 : Int32) < d
/-- the String x spells cs -/
def IsStr (Z : State) (P : List Ent) (x : Addr) (cs : List Int32) : Prop := ∃ b, (Lat cs ∧ (x, ObjC Z "java/lang/String" shStr [.ref b, .int (0 : Int32)]) ∈ P ∧ (b, ArrC Z .byte (enc cs)) ∈ P) ∨ (¬ Lat cs ∧ (x, ObjC Z "java/lang/String" shStr [.ref b, .int (1 : Int32)]) ∈ P ∧ (b, ArrC Z .byte (enc16 cs)) ∈ P)
theorem IsStr.up {Z : State} {P P' : List Ent} {x : Addr} {cs : List Int32} (h : IsStr Z P x cs) (hs : ∀ y ∈ P, y ∈ P') : IsStr Z P' x cs := by
  obtain ⟨b, ⟨h0, h1, h2⟩ | ⟨h0, h1, h2⟩⟩ := h
  · exact ⟨b, Or.inl ⟨h0, hs _ h1, hs _ h2⟩⟩
  · exact ⟨b, Or.inr ⟨h0, hs _ h1, hs _ h2⟩⟩
theorem IsStr.cell {Z : State} {P : List Ent} {x : Addr} {cs : List Int32} (h : IsStr Z P x cs) : ∃ φ, (x, φ) ∈ P ∧ ∀ c, φ c → ExaC Z "java/lang/String" c := by
  obtain ⟨b, ⟨-, h1, -⟩ | ⟨-, h1, -⟩⟩ := h
  · exact ⟨_, h1, fun _ h => h.1⟩
  · exact ⟨_, h1, fun _ h => h.1⟩
theorem own_lat255 {c : Int32} (h : ¬ (255 : Int32) < c) : c.toInt ≤ 255 := by
  rw [Int32.lt_iff_toInt_lt] at h
  have e : (255 : Int32).toInt = 255 := by decide
  omega
theorem lat_nil : Lat [] := fun j d h => by simp at h
theorem own_cf0 (z : Int32) : (XT.ushr (z - z) 31).toInt8.toInt32 = 0 := by rw [Int32.sub_self]; decide
theorem own_cf1 {n : Nat} (h0 : 0 < n) (h : 2 * n < 2 ^ 31) : (XT.ushr (n.toInt32 - (2 * n).toInt32) 31).toInt8.toInt32 = 1 := by
  have h1 : (n.toInt32 - (2 * n).toInt32).toInt = -(n : Int) := by rw [Int32.toInt_sub, own_i32 (by omega), own_i32 h, Int.bmod_eq_of_le (by omega) (by omega)]; omega
  have h2 := c_iushr (n.toInt32 - (2 * n).toInt32) 31 31 (by decide) (by decide)
  have h3 : (XT.ushr (n.toInt32 - (2 * n).toInt32) 31).toInt = 1 := by show ((n.toInt32 - (2 * n).toInt32).toUInt32 >>> ((31 : Int32) &&& 31).toUInt32).toInt32.toInt = 1; rw [h2, h1]; omega
  have h4 : XT.ushr (n.toInt32 - (2 * n).toInt32) 31 = 1 := by rw [← Int32.toInt_inj, h3]; decide
  rw [h4]; decide
theorem shStr_ok {Z : State} {a0 : Array Value} (hw : ∀ d ∈ tables_1, d.before a0 Z = true) : ShOk Z a0 "java/lang/String" shStr := fun i f hf => match i, hf with
    | 0, hf => by cases hf; exact ⟨(Or.inr (own_w hw 20 rfl)), _, (by decide : parseFieldDescriptor "[B" = some (.array .byte))⟩
    | 1, hf => by cases hf; exact ⟨(Or.inr (own_w hw 21 rfl)), _, (by decide : parseFieldDescriptor "B" = some .byte)⟩
    | i + 2, hf => by simp [shStr] at hf
theorem d0_0 : decode jdk_52_method_21_code 0 = .ok (.iconst 0, 1) := by decide +kernel
theorem d0_1 : decode jdk_52_method_21_code 1 = .ok (.istore 5, 2) := by decide +kernel
theorem d0_3 : decode jdk_52_method_21_code 3 = .ok (.iload 5, 2) := by decide +kernel
theorem d0_5 : decode jdk_52_method_21_code 5 = .ok (.iload 4, 2) := by decide +kernel
theorem d0_7 : decode jdk_52_method_21_code 7 = .ok (.if_icmp .ge 37, 3) := by decide +kernel
theorem d0_10 : decode jdk_52_method_21_code 10 = .ok (.aload_n 0, 1) := by decide +kernel
theorem d0_11 : decode jdk_52_method_21_code 11 = .ok (.iload_n 1, 1) := by decide +kernel
theorem d0_12 : decode jdk_52_method_21_code 12 = .ok (.caload, 1) := by decide +kernel
theorem d0_13 : decode jdk_52_method_21_code 13 = .ok (.istore 6, 2) := by decide +kernel
theorem d0_15 : decode jdk_52_method_21_code 15 = .ok (.iload 6, 2) := by decide +kernel
theorem d0_17 : decode jdk_52_method_21_code 17 = .ok (.sipush 255, 3) := by decide +kernel
theorem d0_20 : decode jdk_52_method_21_code 20 = .ok (.if_icmp .le 6, 3) := by decide +kernel
theorem d0_23 : decode jdk_52_method_21_code 23 = .ok (.iload 5, 2) := by decide +kernel
theorem d0_25 : decode jdk_52_method_21_code 25 = .ok (.ireturn, 1) := by decide +kernel
theorem d0_26 : decode jdk_52_method_21_code 26 = .ok (.aload_n 2, 1) := by decide +kernel
theorem d0_27 : decode jdk_52_method_21_code 27 = .ok (.iload_n 3, 1) := by decide +kernel
theorem d0_28 : decode jdk_52_method_21_code 28 = .ok (.iload 6, 2) := by decide +kernel
theorem d0_30 : decode jdk_52_method_21_code 30 = .ok (.i2b, 1) := by decide +kernel
theorem d0_31 : decode jdk_52_method_21_code 31 = .ok (.bastore, 1) := by decide +kernel
theorem d0_32 : decode jdk_52_method_21_code 32 = .ok (.iinc 1 1, 3) := by decide +kernel
theorem d0_35 : decode jdk_52_method_21_code 35 = .ok (.iinc 3 1, 3) := by decide +kernel
theorem d0_38 : decode jdk_52_method_21_code 38 = .ok (.iinc 5 1, 3) := by decide +kernel
theorem d0_41 : decode jdk_52_method_21_code 41 = .ok (.goto (-38), 3) := by decide +kernel
theorem d0_44 : decode jdk_52_method_21_code 44 = .ok (.iload 4, 2) := by decide +kernel
theorem d0_46 : decode jdk_52_method_21_code 46 = .ok (.ireturn, 1) := by decide +kernel
set_option maxRecDepth 65536 in
set_option maxHeartbeats 40000000 in
theorem comp_loop {kn : Prop} {p : Program} {l : Launch} {e : Env} {R : Room} {s : State} {m : MethodId} {args : Array Value} {below : List Frame} {meth : Method} {c : Code} {Z : State} {a0 : Array Value} {P : List Ent} {k n : Nat} {O : List Ent} {a b : Addr} {cs : List Int32} {Q : Option Value → List Ent → List Ent → Prop} (hlen : cs.length < 2 ^ 31) (hP : (a, ArrC Z .char (cs.map .int)) ∈ P) (hk : k ≤ R.cells) (hn : n ≤ R.slots) (hQ : Lat cs → Q (some (.int cs.length.toInt32)) ((b, ArrC Z .byte (enc cs)) :: O) P) (hQ2 : ∀ (i : Nat) (d : Int32) (bs : List Value), cs[i]? = some d → (255 : Int32) < d → Q (some (.int i.toInt32)) ((b, ArrC Z .byte bs) :: O) P) : ∀ (j i : Nat), i + j = cs.length → (∀ (t : Nat) (d : Int32), t < i → cs[t]? = some d → ¬ (255 : Int32) < d) → ∀ (T : State) (s6 : Slot), One s6 →
    Wk kn p l e R s m args below meth c jdk_52_method_21_code 7 (some .int) Z a0 EL0 "java/lang/StringUTF16" T ((b, ArrC Z .byte (enc (cs.take i) ++ List.replicate (cs.length - i) (.int 0))) :: O) P k n → Go p e below s R Z EL0 Q T (mkF m 3 #[.val (.ref a), .val (.int i.toInt32), .val (.ref b), .val (.int i.toInt32), .val (.int cs.length.toInt32), .val (.int i.toInt32), s6] []) := by
  intro j
  induction j with
  | zero =>
    intro i hi hl T s6 hs6 W
    have e : i = cs.length := by omega
    subst e
    rw [List.take_length, Nat.sub_self, List.replicate_zero, List.append_nil] at W
    refine g_iload W d0_3 (q := 5) rfl rfl ?_
    refine g_iload W d0_5 (q := 7) rfl rfl ?_
    refine g_icY W d0_7 (q := 44) (XT.ii_ge_t (fun z => absurd ((own_lt hlen hlen).mp z) (Nat.lt_irrefl _))) (by decide) (by decide) ?_
    refine g_iload W d0_44 (q := 46) rfl rfl ?_
    exact g_retI W rfl (Or.inl rfl) rfl d0_46 hk hn (hQ fun t d h => hl t d (List.getElem?_eq_some_iff.mp h).1 h)
  | succ j ih =>
    intro i hi hl T s6 hs6 W
    have hil : i < cs.length := by omega
    have hi3 : i < 2 ^ 31 := by omega
    obtain ⟨d, hd⟩ : ∃ d, cs[i]? = some d := ⟨_, List.getElem?_eq_getElem hil⟩
    refine g_iload W d0_3 (q := 5) rfl rfl ?_
    refine g_iload W d0_5 (q := 7) rfl rfl ?_
    refine g_icN W d0_7 (q := 10) (XT.ii_ge_f ((own_lt hi3 hlen).mpr hil)) rfl ?_
    refine g_aloadN W d0_10 (q := 11) rfl rfl rfl ?_
    refine g_iloadN W d0_11 (q := 12) rfl rfl ?_
    refine g_caload W (W.rd hP) (own_nn hi3) (i := i) (own_clamp hi3) (v := .int d) (by rw [List.getElem?_map, hd]; rfl) d0_12 (q := 13) rfl ?_
    refine g_istore W d0_13 (q := 15) (L' := #[.val (.ref a), .val (.int i.toInt32), .val (.ref b), .val (.int i.toInt32), .val (.int cs.length.toInt32), .val (.int i.toInt32), .val (.int d)]) (XS.store1 rfl hs6 rfl) rfl ?_
    refine g_iload W d0_15 (q := 17) rfl rfl ?_
    refine g_sipush W (v := (255 : Int32)) d0_17 (q := 20) rfl rfl ?_
    by_cases h255 : (255 : Int32) < d
    · refine g_icN W d0_20 (q := 23) (XT.ii_le_f h255) rfl ?_
      refine g_iload W d0_23 (q := 25) rfl rfl ?_
      exact g_retI W rfl (Or.inl rfl) rfl d0_25 hk hn (hQ2 i d _ hd h255)
    · refine g_icY W d0_20 (q := 26) (XT.ii_le_t h255) (by decide) (by decide) ?_
      refine g_aloadN W d0_26 (q := 27) rfl rfl rfl ?_
      refine g_iloadN W d0_27 (q := 28) rfl rfl ?_
      refine g_iload W d0_28 (q := 30) rfl rfl ?_
      refine g_i2b W d0_30 (q := 31) (z := (d.toInt8.toInt32)) rfl rfl ?_
      refine g_bastore W (i := 0) (ii := i) (y := d.toInt8.toInt32) (old := .int 0) rfl (own_nn hi3) (own_clamp hi3) (own_fill0 hil) (own_narb d) d0_31 (q := 32) rfl (own_fill hd) (O' := (b, ArrC Z .byte (enc (cs.take (i + 1)) ++ List.replicate (cs.length - (i + 1)) (.int 0))) :: O) rfl fun T W => ?_
      refine g_iinc W d0_32 (q := 35) (z := (i + 1).toInt32) (L' := #[.val (.ref a), .val (.int (i + 1).toInt32), .val (.ref b), .val (.int i.toInt32), .val (.int cs.length.toInt32), .val (.int i.toInt32), .val (.int d)]) rfl (own_succ (by omega)) rfl rfl ?_
      refine g_iinc W d0_35 (q := 38) (z := (i + 1).toInt32) (L' := #[.val (.ref a), .val (.int (i + 1).toInt32), .val (.ref b), .val (.int (i + 1).toInt32), .val (.int cs.length.toInt32), .val (.int i.toInt32), .val (.int d)]) rfl (own_succ (by omega)) rfl rfl ?_
      refine g_iinc W d0_38 (q := 41) (z := (i + 1).toInt32) (L' := #[.val (.ref a), .val (.int (i + 1).toInt32), .val (.ref b), .val (.int (i + 1).toInt32), .val (.int cs.length.toInt32), .val (.int (i + 1).toInt32), .val (.int d)]) rfl (own_succ (by omega)) rfl rfl ?_
      refine g_goto W d0_41 (q := 3) (by decide) (by decide) ?_
      exact ih (i + 1) (by omega) (fun t e q r => by rcases Nat.lt_or_ge t i with z | z; exact hl t e z r; obtain rfl : t = i := (by omega); rw [hd] at r; cases r; exact h255) T _ (One.val rfl) W
theorem ef_comp1 (m : MethodId) (a : Addr) (i1 : Int32) (b : Addr) (i2 : Int32) (i3 : Int32) : entryFrame m #[(.ref a), (.int i1), (.ref b), (.int i2), (.int i3)] 7 = mkF m 0 #[.val (.ref a), .val (.int i1), .val (.ref b), .val (.int i2), .val (.int i3), .unset, .unset] [] := by first | (simp [entryFrame, mkF, argsToLocals, Value.category]; done) | rfl
theorem pn_0 : plainName "java/lang/StringUTF16" = true := by first | (simp [plainName, overriddenIn]; done) | decide +kernel
set_option maxRecDepth 65536 in
set_option maxHeartbeats 40000000 in
theorem con_comp1 {kn : Prop} (l : Launch) (Z : State) (a0 : Array Value) (E0 : Env0 Z a0) (O P : List Ent) (a b : Addr) (cs : List Int32) (hlen : cs.length < 2 ^ 31) (hP : (a, ArrC Z .char (cs.map .int)) ∈ P) :
    Con kn l Z EL0 (⟨"java/lang/StringUTF16", "compress", "([CI[BII)I"⟩ : MethodName) jdk_52_method_21_code 7 (some .int) [] ({ frames := 0, cells := 0, slots := 0, locals := 0 } : Room) #[.ref a, .int (0 : Int32), .ref b, .int (0 : Int32), .int cs.length.toInt32] ((b, ArrC Z .byte (List.replicate cs.length (.int 0))) :: O) P (fun v O' P' => P = P' ∧ ((Lat cs ∧ v = some (.int cs.length.toInt32) ∧ O' = (b, ArrC Z .byte (enc cs)) :: O) ∨ (∃ (i : Nat) (d : Int32) (bs : List Value), cs[i]? = some d ∧ (255 : Int32) < d ∧ v = some (.int i.toInt32) ∧ O' = (b, ArrC Z .byte bs) :: O))) := by
  obtain ⟨hw, hs0, hEL, hS, ⟨cs0, hC0, hcs0⟩, ⟨fv, hFv, hfv⟩, hAD, hHI, hLO⟩ := id E0
  refine con_intro (plainFor_of_name pn_0) hEL (fun m => ef_comp1 m _ _ _ _ _) ?_
  intro p e s m below meth c T W hnm
  refine g_iconst W (v := (0 : Int32)) d0_0 (q := 1) rfl rfl ?_
  refine g_istore W d0_1 (q := 3) (L' := #[.val (.ref a), .val (.int (0 : Int32)), .val (.ref b), .val (.int (0 : Int32)), .val (.int cs.length.toInt32), .val (.int (0 : Int32)), .unset]) rfl rfl ?_
  exact comp_loop hlen hP (Nat.le_of_ble_eq_true rfl) (Nat.le_of_ble_eq_true rfl) (fun h => ⟨rfl, Or.inl ⟨h, rfl, rfl⟩⟩) (fun i d bs h1 h2 => ⟨rfl, Or.inr ⟨i, d, bs, h1, h2, rfl, rfl⟩⟩) cs.length 0 (Nat.zero_add _) (fun t d q => absurd q (Nat.not_lt_zero _)) T _ One.u W
theorem d1_0 : decode jdk_52_method_3_code 0 = .ok (.iload_n 0, 1) := by decide +kernel
theorem d1_1 : decode jdk_52_method_3_code 1 = .ok (.ifCond .ge 11, 3) := by decide +kernel
theorem d1_7 : decode jdk_52_method_3_code 7 = .ok (.dup, 1) := by decide +kernel
theorem d1_11 : decode jdk_52_method_3_code 11 = .ok (.athrow, 1) := by decide +kernel
theorem d1_12 : decode jdk_52_method_3_code 12 = .ok (.iload_n 0, 1) := by decide +kernel
theorem d1_13 : decode jdk_52_method_3_code 13 = .ok (.ldc 20, 2) := by decide +kernel
theorem d1_15 : decode jdk_52_method_3_code 15 = .ok (.if_icmp .lt 40, 3) := by decide +kernel
theorem d1_21 : decode jdk_52_method_3_code 21 = .ok (.dup, 1) := by decide +kernel
theorem d1_25 : decode jdk_52_method_3_code 25 = .ok (.dup, 1) := by decide +kernel
theorem d1_34 : decode jdk_52_method_3_code 34 = .ok (.iload_n 0, 1) := by decide +kernel
theorem d1_43 : decode jdk_52_method_3_code 43 = .ok (.ldc 20, 2) := by decide +kernel
theorem d1_54 : decode jdk_52_method_3_code 54 = .ok (.athrow, 1) := by decide +kernel
theorem d1_55 : decode jdk_52_method_3_code 55 = .ok (.iload_n 0, 1) := by decide +kernel
theorem d1_56 : decode jdk_52_method_3_code 56 = .ok (.iconst 1, 1) := by decide +kernel
theorem d1_57 : decode jdk_52_method_3_code 57 = .ok (.ishl, 1) := by decide +kernel
theorem d1_58 : decode jdk_52_method_3_code 58 = .ok (.ireturn, 1) := by decide +kernel
theorem ef_nbl (m : MethodId) (i : Int32) : entryFrame m #[(.int i)] 1 = mkF m 0 #[.val (.int i)] [] := by first | (simp [entryFrame, mkF, argsToLocals, Value.category]; done) | rfl
set_option maxRecDepth 65536 in
set_option maxHeartbeats 40000000 in
theorem con_nbl {kn : Prop} (l : Launch) (Z : State) (a0 : Array Value) (E0 : Env0 Z a0) (O P : List Ent) (i : Nat) (hi : i ≤ 60000) :
    Con kn l Z EL0 (⟨"java/lang/StringUTF16", "newBytesLength", "(I)I"⟩ : MethodName) jdk_52_method_3_code 1 (some .int) [] ({ frames := 0, cells := 0, slots := 0, locals := 0 } : Room) #[.int i.toInt32] O P (fun v O' P' => v = some (.int (2 * i).toInt32) ∧ O = O' ∧ P = P') := by
  obtain ⟨hw, hs0, hEL, hS, ⟨cs0, hC0, hcs0⟩, ⟨fv, hFv, hfv⟩, hAD, hHI, hLO⟩ := id E0
  refine con_intro (plainFor_of_name pn_0) hEL (fun m => ef_nbl m _) ?_
  intro p e s m below meth c T W hnm
  refine g_iloadN W d1_0 (q := 1) rfl rfl ?_
  refine g_ifY W d1_1 (q := 12) (XT.i0_ge_t (own_nn (by omega))) (by decide) (by decide) ?_
  refine g_iloadN W d1_12 (q := 13) rfl rfl ?_
  refine g_ldcI W (v := (1073741823 : Int32)) (own_w hw 112 rfl) d1_13 (q := 15) rfl ?_
  refine g_icY W d1_15 (q := 55) (XT.ii_lt_t ((own_lt (j := 1073741823) (by omega) (by decide)).mpr (by omega))) (by decide) (by decide) ?_
  refine g_iloadN W d1_55 (q := 56) rfl rfl ?_
  refine g_iconst W (v := (1 : Int32)) d1_56 (q := 57) rfl rfl ?_
  refine g_ishl W d1_57 (q := 58) (z := (2 * i).toInt32) (own_shl1 (by omega)) rfl ?_
  exact g_retI W rfl (Or.inl rfl) rfl d1_58 (Nat.le_of_ble_eq_true rfl) (Nat.le_of_ble_eq_true rfl) ⟨rfl, rfl, rfl⟩
theorem d2_0 : decode jdk_52_method_2_code 0 = .ok (.iload_n 0, 1) := by decide +kernel
theorem d2_1 : decode jdk_52_method_2_code 1 = .ok (.invokestatic 11, 3) := by decide +kernel
theorem d2_4 : decode jdk_52_method_2_code 4 = .ok (.newarray .byte, 2) := by decide +kernel
theorem d2_6 : decode jdk_52_method_2_code 6 = .ok (.areturn, 1) := by decide +kernel
theorem ef_nbf (m : MethodId) (i : Int32) : entryFrame m #[(.int i)] 1 = mkF m 0 #[.val (.int i)] [] := by first | (simp [entryFrame, mkF, argsToLocals, Value.category]; done) | rfl
theorem pd_0 : parseMethodDescriptor "(I)I" = some ⟨[.int], (some .int)⟩ := by decide +kernel
set_option maxRecDepth 65536 in
set_option maxHeartbeats 40000000 in
theorem con_nbf {kn : Prop} (l : Launch) (Z : State) (a0 : Array Value) (E0 : Env0 Z a0) (O P : List Ent) (i N : Nat) (hi : i ≤ N) (hN : N ≤ 60000) :
    Con kn l Z EL0 (⟨"java/lang/StringUTF16", "newBytesFor", "(I)[B"⟩ : MethodName) jdk_52_method_2_code 1 (some (.array .byte)) [] ({ frames := 1, cells := 1, slots := 2 * N, locals := 12 } : Room) #[.int i.toInt32] O P (fun v O' P' => ∃ u, v = some (.ref u) ∧ O' = (u, ArrC Z .byte (List.replicate (2 * i) (.int 0))) :: O ∧ P = P') := by
  obtain ⟨hw, hs0, hEL, hS, ⟨cs0, hC0, hcs0⟩, ⟨fv, hFv, hfv⟩, hAD, hHI, hLO⟩ := id E0
  refine con_intro (plainFor_of_name pn_0) hEL (fun m => ef_nbf m _) ?_
  intro p e s m below meth c T W hnm
  refine g_iloadN W d2_0 (q := 1) rfl rfl ?_
  refine g_static W (con_nbl l Z a0 E0 O P i (by omega)) (argsL := [(.int i.toInt32)]) (rest := []) rfl rfl pd_0 rfl (own_w hw 109 rfl) (own_w hw 110 rfl) (own_w hw 73 rfl) (own_w hw 111 rfl) (by decide) d2_1 (q := 4) rfl rfl (Nat.le_of_ble_eq_true rfl) (Nat.le_of_ble_eq_true rfl) (Nat.le_of_ble_eq_true rfl) (by dsimp only; omega) ?_
  rintro _ _ _ T ⟨rfl, rfl, rfl⟩ W
  refine g_newA W (ty := .byte) (cap := 2 * N) (vs := List.replicate (2 * i) (.int 0)) rfl (own_w hw 19 rfl) (own_nn (by omega)) (by rw [own_clamp (by omega)]; omega) (by omega) rfl (by rw [own_clamp (by omega)]; rfl) d2_4 (q := 6) rfl (Nat.le_of_ble_eq_true rfl) (by dsimp only; omega) fun u T W => ?_
  exact g_retA W rfl rfl rfl d2_6 (Nat.le_of_ble_eq_true rfl) (by dsimp only; omega) ⟨u, rfl, rfl, rfl⟩
theorem d3_0 : decode jdk_52_method_4_code 0 = .ok (.getstatic 44, 3) := by decide +kernel
theorem d3_3 : decode jdk_52_method_4_code 3 = .ok (.ifCond .ne 25, 3) := by decide +kernel
theorem d3_6 : decode jdk_52_method_4_code 6 = .ok (.iload_n 1, 1) := by decide +kernel
theorem d3_7 : decode jdk_52_method_4_code 7 = .ok (.ifCond .lt 11, 3) := by decide +kernel
theorem d3_10 : decode jdk_52_method_4_code 10 = .ok (.iload_n 1, 1) := by decide +kernel
theorem d3_11 : decode jdk_52_method_4_code 11 = .ok (.aload_n 0, 1) := by decide +kernel
theorem d3_12 : decode jdk_52_method_4_code 12 = .ok (.invokestatic 48, 3) := by decide +kernel
theorem d3_15 : decode jdk_52_method_4_code 15 = .ok (.if_icmp .lt 13, 3) := by decide +kernel
theorem d3_21 : decode jdk_52_method_4_code 21 = .ok (.dup, 1) := by decide +kernel
theorem d3_27 : decode jdk_52_method_4_code 27 = .ok (.athrow, 1) := by decide +kernel
theorem d3_28 : decode jdk_52_method_4_code 28 = .ok (.iload_n 1, 1) := by decide +kernel
theorem d3_29 : decode jdk_52_method_4_code 29 = .ok (.iconst 1, 1) := by decide +kernel
theorem d3_30 : decode jdk_52_method_4_code 30 = .ok (.ishl, 1) := by decide +kernel
theorem d3_31 : decode jdk_52_method_4_code 31 = .ok (.istore_n 1, 1) := by decide +kernel
theorem d3_32 : decode jdk_52_method_4_code 32 = .ok (.aload_n 0, 1) := by decide +kernel
theorem d3_33 : decode jdk_52_method_4_code 33 = .ok (.iload_n 1, 1) := by decide +kernel
theorem d3_34 : decode jdk_52_method_4_code 34 = .ok (.iinc 1 1, 3) := by decide +kernel
theorem d3_37 : decode jdk_52_method_4_code 37 = .ok (.iload_n 2, 1) := by decide +kernel
theorem d3_38 : decode jdk_52_method_4_code 38 = .ok (.getstatic 59, 3) := by decide +kernel
theorem d3_41 : decode jdk_52_method_4_code 41 = .ok (.ishr, 1) := by decide +kernel
theorem d3_42 : decode jdk_52_method_4_code 42 = .ok (.i2b, 1) := by decide +kernel
theorem d3_43 : decode jdk_52_method_4_code 43 = .ok (.bastore, 1) := by decide +kernel
theorem d3_44 : decode jdk_52_method_4_code 44 = .ok (.aload_n 0, 1) := by decide +kernel
theorem d3_45 : decode jdk_52_method_4_code 45 = .ok (.iload_n 1, 1) := by decide +kernel
theorem d3_46 : decode jdk_52_method_4_code 46 = .ok (.iload_n 2, 1) := by decide +kernel
theorem d3_47 : decode jdk_52_method_4_code 47 = .ok (.getstatic 63, 3) := by decide +kernel
theorem d3_50 : decode jdk_52_method_4_code 50 = .ok (.ishr, 1) := by decide +kernel
theorem d3_51 : decode jdk_52_method_4_code 51 = .ok (.i2b, 1) := by decide +kernel
theorem d3_52 : decode jdk_52_method_4_code 52 = .ok (.bastore, 1) := by decide +kernel
theorem d3_53 : decode jdk_52_method_4_code 53 = .ok (.return_, 1) := by decide +kernel
theorem ef_putC (m : MethodId) (u : Addr) (i : Int32) (x : Int32) : entryFrame m #[(.ref u), (.int i), (.int x)] 3 = mkF m 0 #[.val (.ref u), .val (.int i), .val (.int x)] [] := by first | (simp [entryFrame, mkF, argsToLocals, Value.category]; done) | rfl
set_option maxRecDepth 65536 in
set_option maxHeartbeats 40000000 in
theorem con_putC {kn : Prop} (l : Launch) (Z : State) (a0 : Array Value) (E0 : Env0 Z a0) (O P : List Ent) (u : Addr) (vs : List Value) (i : Nat) (x : Int32) (hl : 2 * i + 1 < vs.length) (hl2 : vs.length < 2 ^ 30) :
    Con kn l Z EL0 (⟨"java/lang/StringUTF16", "putChar", "([BII)V"⟩ : MethodName) jdk_52_method_4_code 3 none [] ({ frames := 0, cells := 0, slots := 0, locals := 0 } : Room) #[.ref u, .int i.toInt32, .int x] ((u, ArrC Z .byte vs) :: O) P (fun v O' P' => v = none ∧ O' = (u, ArrC Z .byte ((vs.set (2 * i) (.int x.toInt8.toInt32)).set (2 * i + 1) (.int (x >>> ((8 : Int32) &&& 31)).toInt8.toInt32))) :: O ∧ P = P') := by
  obtain ⟨hw, hs0, hEL, hS, ⟨cs0, hC0, hcs0⟩, ⟨fv, hFv, hfv⟩, hAD, hHI, hLO⟩ := id E0
  refine con_intro (plainFor_of_name pn_0) hEL (fun m => ef_putC m _ _ _) ?_
  intro p e s m below meth c T W hnm
  refine g_getS W hAD (own_w hw 116 rfl) d3_0 (q := 3) rfl fun T W => ?_
  refine g_ifY W d3_3 (q := 28) (XT.i0_ne_t (by decide)) (by decide) (by decide) ?_
  refine g_iloadN W d3_28 (q := 29) rfl rfl ?_
  refine g_iconst W (v := (1 : Int32)) d3_29 (q := 30) rfl rfl ?_
  refine g_ishl W d3_30 (q := 31) (z := (2 * i).toInt32) (own_shl1 (by omega)) rfl ?_
  refine g_istoreN W d3_31 (q := 32) (L' := #[.val (.ref u), .val (.int (2 * i).toInt32), .val (.int x)]) rfl rfl ?_
  refine g_aloadN W d3_32 (q := 33) rfl rfl rfl ?_
  refine g_iloadN W d3_33 (q := 34) rfl rfl ?_
  refine g_iinc W d3_34 (q := 37) (z := (2 * i + 1).toInt32) (L' := #[.val (.ref u), .val (.int (2 * i + 1).toInt32), .val (.int x)]) rfl (own_succ (by omega)) rfl rfl ?_
  refine g_iloadN W d3_37 (q := 38) rfl rfl ?_
  refine g_getS W hHI (own_w hw 117 rfl) d3_38 (q := 41) rfl fun T W => ?_
  refine g_ishr W d3_41 (q := 42) (z := x) (own_shr0 x) rfl ?_
  refine g_i2b W d3_42 (q := 43) (z := (x.toInt8.toInt32)) rfl rfl ?_
  refine g_bastore W (i := 0) (ii := 2 * i) (y := x.toInt8.toInt32) rfl (own_nn (by omega)) (own_clamp (by omega)) (List.getElem?_eq_getElem (show 2 * i < vs.length by omega)) (own_narb x) d3_43 (q := 44) rfl (vs' := (vs.set (2 * i) (.int x.toInt8.toInt32))) rfl (O' := (u, ArrC Z .byte (vs.set (2 * i) (.int x.toInt8.toInt32))) :: O) rfl fun T W => ?_
  refine g_aloadN W d3_44 (q := 45) rfl rfl rfl ?_
  refine g_iloadN W d3_45 (q := 46) rfl rfl ?_
  refine g_iloadN W d3_46 (q := 47) rfl rfl ?_
  refine g_getS W hLO (own_w hw 118 rfl) d3_47 (q := 50) rfl fun T W => ?_
  refine g_ishr W d3_50 (q := 51) (z := (x >>> ((8 : Int32) &&& 31))) rfl rfl ?_
  refine g_i2b W d3_51 (q := 52) (z := ((x >>> ((8 : Int32) &&& 31)).toInt8.toInt32)) rfl rfl ?_
  refine g_bastore W (i := 0) (ii := 2 * i + 1) (y := (x >>> ((8 : Int32) &&& 31)).toInt8.toInt32) rfl (own_nn (by omega)) (own_clamp (by omega)) (List.getElem?_eq_getElem (show 2 * i + 1 < (vs.set (2 * i) (.int x.toInt8.toInt32)).length by rw [List.length_set]; omega)) (own_narb _) d3_52 (q := 53) rfl (vs' := ((vs.set (2 * i) (.int x.toInt8.toInt32)).set (2 * i + 1) (.int (x >>> ((8 : Int32) &&& 31)).toInt8.toInt32))) rfl (O' := (u, ArrC Z .byte ((vs.set (2 * i) (.int x.toInt8.toInt32)).set (2 * i + 1) (.int (x >>> ((8 : Int32) &&& 31)).toInt8.toInt32))) :: O) rfl fun T W => ?_
  exact g_retV W rfl d3_53 (Nat.le_of_ble_eq_true rfl) (Nat.le_of_ble_eq_true rfl) ⟨rfl, rfl, rfl⟩
theorem d4_0 : decode jdk_52_method_5_code 0 = .ok (.getstatic 44, 3) := by decide +kernel
theorem d4_3 : decode jdk_52_method_5_code 3 = .ok (.ifCond .ne 25, 3) := by decide +kernel
theorem d4_6 : decode jdk_52_method_5_code 6 = .ok (.iload_n 1, 1) := by decide +kernel
theorem d4_7 : decode jdk_52_method_5_code 7 = .ok (.ifCond .lt 11, 3) := by decide +kernel
theorem d4_10 : decode jdk_52_method_5_code 10 = .ok (.iload_n 1, 1) := by decide +kernel
theorem d4_11 : decode jdk_52_method_5_code 11 = .ok (.aload_n 0, 1) := by decide +kernel
theorem d4_12 : decode jdk_52_method_5_code 12 = .ok (.invokestatic 48, 3) := by decide +kernel
theorem d4_15 : decode jdk_52_method_5_code 15 = .ok (.if_icmp .lt 13, 3) := by decide +kernel
theorem d4_21 : decode jdk_52_method_5_code 21 = .ok (.dup, 1) := by decide +kernel
theorem d4_27 : decode jdk_52_method_5_code 27 = .ok (.athrow, 1) := by decide +kernel
theorem d4_28 : decode jdk_52_method_5_code 28 = .ok (.iload_n 1, 1) := by decide +kernel
theorem d4_29 : decode jdk_52_method_5_code 29 = .ok (.iconst 1, 1) := by decide +kernel
theorem d4_30 : decode jdk_52_method_5_code 30 = .ok (.ishl, 1) := by decide +kernel
theorem d4_31 : decode jdk_52_method_5_code 31 = .ok (.istore_n 1, 1) := by decide +kernel
theorem d4_32 : decode jdk_52_method_5_code 32 = .ok (.aload_n 0, 1) := by decide +kernel
theorem d4_33 : decode jdk_52_method_5_code 33 = .ok (.iload_n 1, 1) := by decide +kernel
theorem d4_34 : decode jdk_52_method_5_code 34 = .ok (.iinc 1 1, 3) := by decide +kernel
theorem d4_37 : decode jdk_52_method_5_code 37 = .ok (.baload, 1) := by decide +kernel
theorem d4_38 : decode jdk_52_method_5_code 38 = .ok (.sipush 255, 3) := by decide +kernel
theorem d4_41 : decode jdk_52_method_5_code 41 = .ok (.iand, 1) := by decide +kernel
theorem d4_42 : decode jdk_52_method_5_code 42 = .ok (.getstatic 59, 3) := by decide +kernel
theorem d4_45 : decode jdk_52_method_5_code 45 = .ok (.ishl, 1) := by decide +kernel
theorem d4_46 : decode jdk_52_method_5_code 46 = .ok (.aload_n 0, 1) := by decide +kernel
theorem d4_47 : decode jdk_52_method_5_code 47 = .ok (.iload_n 1, 1) := by decide +kernel
theorem d4_48 : decode jdk_52_method_5_code 48 = .ok (.baload, 1) := by decide +kernel
theorem d4_49 : decode jdk_52_method_5_code 49 = .ok (.sipush 255, 3) := by decide +kernel
theorem d4_52 : decode jdk_52_method_5_code 52 = .ok (.iand, 1) := by decide +kernel
theorem d4_53 : decode jdk_52_method_5_code 53 = .ok (.getstatic 63, 3) := by decide +kernel
theorem d4_56 : decode jdk_52_method_5_code 56 = .ok (.ishl, 1) := by decide +kernel
theorem d4_57 : decode jdk_52_method_5_code 57 = .ok (.ior, 1) := by decide +kernel
theorem d4_58 : decode jdk_52_method_5_code 58 = .ok (.i2c, 1) := by decide +kernel
theorem d4_59 : decode jdk_52_method_5_code 59 = .ok (.ireturn, 1) := by decide +kernel
theorem ef_getC (m : MethodId) (u : Addr) (i : Int32) : entryFrame m #[(.ref u), (.int i)] 2 = mkF m 0 #[.val (.ref u), .val (.int i)] [] := by first | (simp [entryFrame, mkF, argsToLocals, Value.category]; done) | rfl
set_option maxRecDepth 65536 in
set_option maxHeartbeats 40000000 in
theorem con_getC {kn : Prop} (l : Launch) (Z : State) (a0 : Array Value) (E0 : Env0 Z a0) (O P : List Ent) (u : Addr) (cs : List Int32) (i : Nat) (ch : Int32) (hlen : cs.length ≤ 60000) (hi : cs[i]? = some ch) (hch : 0 ≤ ch.toInt ∧ ch.toInt < 65536) :
    Con kn l Z EL0 (⟨"java/lang/StringUTF16", "getChar", "([BI)C"⟩ : MethodName) jdk_52_method_5_code 2 (some .char) [] ({ frames := 0, cells := 0, slots := 0, locals := 0 } : Room) #[.ref u, .int i.toInt32] ((u, ArrC Z .byte (enc16 cs)) :: O) P (fun v O' P' => v = some (.int ch) ∧ ((u, ArrC Z .byte (enc16 cs)) :: O) = O' ∧ P = P') := by
  obtain ⟨hw, hs0, hEL, hS, ⟨cs0, hC0, hcs0⟩, ⟨fv, hFv, hfv⟩, hAD, hHI, hLO⟩ := id E0
  refine con_intro (plainFor_of_name pn_0) hEL (fun m => ef_getC m _ _) ?_
  intro p e s m below meth c T W hnm
  have hil : i < cs.length := (List.getElem?_eq_some_iff.mp hi).1
  refine g_getS W hAD (own_w hw 116 rfl) d4_0 (q := 3) rfl fun T W => ?_
  refine g_ifY W d4_3 (q := 28) (XT.i0_ne_t (by decide)) (by decide) (by decide) ?_
  refine g_iloadN W d4_28 (q := 29) rfl rfl ?_
  refine g_iconst W (v := (1 : Int32)) d4_29 (q := 30) rfl rfl ?_
  refine g_ishl W d4_30 (q := 31) (z := (2 * i).toInt32) (own_shl1 (by omega)) rfl ?_
  refine g_istoreN W d4_31 (q := 32) (L' := #[.val (.ref u), .val (.int (2 * i).toInt32)]) rfl rfl ?_
  refine g_aloadN W d4_32 (q := 33) rfl rfl rfl ?_
  refine g_iloadN W d4_33 (q := 34) rfl rfl ?_
  refine g_iinc W d4_34 (q := 37) (z := (2 * i + 1).toInt32) (L' := #[.val (.ref u), .val (.int (2 * i + 1).toInt32)]) rfl (own_succ (by omega)) rfl rfl ?_
  refine g_baload W (W.ow (i := 0) rfl) (own_nn (by omega)) (i := 2 * i) (own_clamp (by omega)) (v := .int ch.toInt8.toInt32) (enc16_at hi).1 d4_37 (q := 38) rfl ?_
  refine g_sipush W (v := (255 : Int32)) d4_38 (q := 41) rfl rfl ?_
  refine g_iand W d4_41 (q := 42) (z := (ch.toInt8.toInt32 &&& (255 : Int32))) rfl rfl ?_
  refine g_getS W hHI (own_w hw 117 rfl) d4_42 (q := 45) rfl fun T W => ?_
  refine g_ishl W d4_45 (q := 46) (z := ((ch.toInt8.toInt32 &&& (255 : Int32)) <<< ((0 : Int32) &&& 31))) rfl rfl ?_
  refine g_aloadN W d4_46 (q := 47) rfl rfl rfl ?_
  refine g_iloadN W d4_47 (q := 48) rfl rfl ?_
  refine g_baload W (W.ow (i := 0) rfl) (own_nn (by omega)) (i := 2 * i + 1) (own_clamp (by omega)) (v := .int (ch >>> ((8 : Int32) &&& 31)).toInt8.toInt32) (enc16_at hi).2 d4_48 (q := 49) rfl ?_
  refine g_sipush W (v := (255 : Int32)) d4_49 (q := 52) rfl rfl ?_
  refine g_iand W d4_52 (q := 53) (z := ((ch >>> ((8 : Int32) &&& 31)).toInt8.toInt32 &&& (255 : Int32))) rfl rfl ?_
  refine g_getS W hLO (own_w hw 118 rfl) d4_53 (q := 56) rfl fun T W => ?_
  refine g_ishl W d4_56 (q := 57) (z := (((ch >>> ((8 : Int32) &&& 31)).toInt8.toInt32 &&& (255 : Int32)) <<< ((8 : Int32) &&& 31))) rfl rfl ?_
  refine g_ior W d4_57 (q := 58) (z := ch) (own_get16 hch) rfl ?_
  refine g_i2c W d4_58 (q := 59) (z := ch) (own_chr hch) rfl ?_
  exact g_retI W rfl (Or.inr (Or.inr (Or.inr (Or.inl rfl)))) (own_narcR hch) d4_59 (Nat.le_of_ble_eq_true rfl) (Nat.le_of_ble_eq_true rfl) ⟨rfl, rfl, rfl⟩
set_option maxRecDepth 65536 in
set_option maxHeartbeats 40000000 in
theorem con_getR {kn : Prop} (l : Launch) (Z : State) (a0 : Array Value) (E0 : Env0 Z a0) (O P : List Ent) (u : Addr) (cs : List Int32) (i : Nat) (ch : Int32) (hlen : cs.length ≤ 60000) (hi : cs[i]? = some ch) (hch : 0 ≤ ch.toInt ∧ ch.toInt < 65536) (hu : (u, ArrC Z .byte (enc16 cs)) ∈ P) :
    Con kn l Z EL0 (⟨"java/lang/StringUTF16", "getChar", "([BI)C"⟩ : MethodName) jdk_52_method_5_code 2 (some .char) [] ({ frames := 0, cells := 0, slots := 0, locals := 0 } : Room) #[.ref u, .int i.toInt32] O P (fun v O' P' => v = some (.int ch) ∧ O = O' ∧ P = P') := by
  obtain ⟨hw, hs0, hEL, hS, ⟨cs0, hC0, hcs0⟩, ⟨fv, hFv, hfv⟩, hAD, hHI, hLO⟩ := id E0
  refine con_intro (plainFor_of_name pn_0) hEL (fun m => ef_getC m _ _) ?_
  intro p e s m below meth c T W hnm
  have hil : i < cs.length := (List.getElem?_eq_some_iff.mp hi).1
  refine g_getS W hAD (own_w hw 116 rfl) d4_0 (q := 3) rfl fun T W => ?_
  refine g_ifY W d4_3 (q := 28) (XT.i0_ne_t (by decide)) (by decide) (by decide) ?_
  refine g_iloadN W d4_28 (q := 29) rfl rfl ?_
  refine g_iconst W (v := (1 : Int32)) d4_29 (q := 30) rfl rfl ?_
  refine g_ishl W d4_30 (q := 31) (z := (2 * i).toInt32) (own_shl1 (by omega)) rfl ?_
  refine g_istoreN W d4_31 (q := 32) (L' := #[.val (.ref u), .val (.int (2 * i).toInt32)]) rfl rfl ?_
  refine g_aloadN W d4_32 (q := 33) rfl rfl rfl ?_
  refine g_iloadN W d4_33 (q := 34) rfl rfl ?_
  refine g_iinc W d4_34 (q := 37) (z := (2 * i + 1).toInt32) (L' := #[.val (.ref u), .val (.int (2 * i + 1).toInt32)]) rfl (own_succ (by omega)) rfl rfl ?_
  refine g_baload W (W.rd hu) (own_nn (by omega)) (i := 2 * i) (own_clamp (by omega)) (v := .int ch.toInt8.toInt32) (enc16_at hi).1 d4_37 (q := 38) rfl ?_
  refine g_sipush W (v := (255 : Int32)) d4_38 (q := 41) rfl rfl ?_
  refine g_iand W d4_41 (q := 42) (z := (ch.toInt8.toInt32 &&& (255 : Int32))) rfl rfl ?_
  refine g_getS W hHI (own_w hw 117 rfl) d4_42 (q := 45) rfl fun T W => ?_
  refine g_ishl W d4_45 (q := 46) (z := ((ch.toInt8.toInt32 &&& (255 : Int32)) <<< ((0 : Int32) &&& 31))) rfl rfl ?_
  refine g_aloadN W d4_46 (q := 47) rfl rfl rfl ?_
  refine g_iloadN W d4_47 (q := 48) rfl rfl ?_
  refine g_baload W (W.rd hu) (own_nn (by omega)) (i := 2 * i + 1) (own_clamp (by omega)) (v := .int (ch >>> ((8 : Int32) &&& 31)).toInt8.toInt32) (enc16_at hi).2 d4_48 (q := 49) rfl ?_
  refine g_sipush W (v := (255 : Int32)) d4_49 (q := 52) rfl rfl ?_
  refine g_iand W d4_52 (q := 53) (z := ((ch >>> ((8 : Int32) &&& 31)).toInt8.toInt32 &&& (255 : Int32))) rfl rfl ?_
  refine g_getS W hLO (own_w hw 118 rfl) d4_53 (q := 56) rfl fun T W => ?_
  refine g_ishl W d4_56 (q := 57) (z := (((ch >>> ((8 : Int32) &&& 31)).toInt8.toInt32 &&& (255 : Int32)) <<< ((8 : Int32) &&& 31))) rfl rfl ?_
  refine g_ior W d4_57 (q := 58) (z := ch) (own_get16 hch) rfl ?_
  refine g_i2c W d4_58 (q := 59) (z := ch) (own_chr hch) rfl ?_
  exact g_retI W rfl (Or.inr (Or.inr (Or.inr (Or.inl rfl)))) (own_narcR hch) d4_59 (Nat.le_of_ble_eq_true rfl) (Nat.le_of_ble_eq_true rfl) ⟨rfl, rfl, rfl⟩
theorem d5_0 : decode jdk_52_method_14_code 0 = .ok (.iload_n 2, 1) := by decide +kernel
theorem d5_1 : decode jdk_52_method_14_code 1 = .ok (.invokestatic 107, 3) := by decide +kernel
theorem d5_4 : decode jdk_52_method_14_code 4 = .ok (.astore_n 3, 1) := by decide +kernel
theorem d5_5 : decode jdk_52_method_14_code 5 = .ok (.iconst 0, 1) := by decide +kernel
theorem d5_6 : decode jdk_52_method_14_code 6 = .ok (.istore 4, 2) := by decide +kernel
theorem d5_8 : decode jdk_52_method_14_code 8 = .ok (.iload 4, 2) := by decide +kernel
theorem d5_10 : decode jdk_52_method_14_code 10 = .ok (.iload_n 2, 1) := by decide +kernel
theorem d5_11 : decode jdk_52_method_14_code 11 = .ok (.if_icmp .ge 21, 3) := by decide +kernel
theorem d5_14 : decode jdk_52_method_14_code 14 = .ok (.aload_n 3, 1) := by decide +kernel
theorem d5_15 : decode jdk_52_method_14_code 15 = .ok (.iload 4, 2) := by decide +kernel
theorem d5_17 : decode jdk_52_method_14_code 17 = .ok (.aload_n 0, 1) := by decide +kernel
theorem d5_18 : decode jdk_52_method_14_code 18 = .ok (.iload_n 1, 1) := by decide +kernel
theorem d5_19 : decode jdk_52_method_14_code 19 = .ok (.caload, 1) := by decide +kernel
theorem d5_20 : decode jdk_52_method_14_code 20 = .ok (.invokestatic 111, 3) := by decide +kernel
theorem d5_23 : decode jdk_52_method_14_code 23 = .ok (.iinc 1 1, 3) := by decide +kernel
theorem d5_26 : decode jdk_52_method_14_code 26 = .ok (.iinc 4 1, 3) := by decide +kernel
theorem d5_29 : decode jdk_52_method_14_code 29 = .ok (.goto (-21), 3) := by decide +kernel
theorem d5_32 : decode jdk_52_method_14_code 32 = .ok (.aload_n 3, 1) := by decide +kernel
theorem d5_33 : decode jdk_52_method_14_code 33 = .ok (.areturn, 1) := by decide +kernel
theorem pd_1 : parseMethodDescriptor "([BII)V" = some ⟨[(.array .byte), .int, .int], none⟩ := by decide +kernel
set_option maxRecDepth 65536 in
set_option maxHeartbeats 40000000 in
theorem tb_loop {kn : Prop} {p : Program} {l : Launch} {e : Env} {s : State} {m : MethodId} {args : Array Value} {below : List Frame} {meth : Method} {c : Code} {Z : State} {a0 : Array Value} {P : List Ent} (E0 : Env0 Z a0) {O : List Ent} {a u : Addr} {cs : List Int32} {N : Nat} {Q : Option Value → List Ent → List Ent → Prop} (hlen : cs.length ≤ 60000) (hP : (a, ArrC Z .char (cs.map .int)) ∈ P) {k n : Nat} (hk : k ≤ 1) (hn : n ≤ 2 * N) (hQ : Q (some (.ref u)) ((u, ArrC Z .byte (enc16 cs)) :: O) P) : ∀ (j i : Nat), i + j = cs.length → ∀ (T : State),
    Wk kn p l e ({ frames := 2, cells := 1, slots := 2 * N, locals := 32 } : Room) s m args below meth c jdk_52_method_14_code 5 (some (.array .byte)) Z a0 EL0 "java/lang/StringUTF16" T ((u, ArrC Z .byte (fill16 cs i)) :: O) P k n → Go p e below s ({ frames := 2, cells := 1, slots := 2 * N, locals := 32 } : Room) Z EL0 Q T (mkF m 8 #[.val (.ref a), .val (.int i.toInt32), .val (.int cs.length.toInt32), .val (.ref u), .val (.int i.toInt32)] []) := by
  obtain ⟨hw, hs0, hEL, hS, ⟨cs0, hC0, hcs0⟩, ⟨fv, hFv, hfv⟩, hAD, hHI, hLO⟩ := id E0
  intro j
  induction j with
  | zero =>
    intro i hi T W
    have e : i = cs.length := by omega
    subst e
    rw [fill16, List.take_length, Nat.sub_self, Nat.mul_zero, List.replicate_zero, List.append_nil] at W
    refine g_iload W d5_8 (q := 10) rfl rfl ?_
    refine g_iloadN W d5_10 (q := 11) rfl rfl ?_
    refine g_icY W d5_11 (q := 32) (XT.ii_ge_t (fun z => absurd ((own_lt (by omega) (by omega)).mp z) (Nat.lt_irrefl _))) (by decide) (by decide) ?_
    refine g_aloadN W d5_32 (q := 33) rfl rfl rfl ?_
    exact g_retA W rfl rfl rfl d5_33 hk hn hQ
  | succ j ih =>
    intro i hi T W
    have hil : i < cs.length := by omega
    obtain ⟨d, hd⟩ : ∃ d, cs[i]? = some d := ⟨_, List.getElem?_eq_getElem hil⟩
    refine g_iload W d5_8 (q := 10) rfl rfl ?_
    refine g_iloadN W d5_10 (q := 11) rfl rfl ?_
    refine g_icN W d5_11 (q := 14) (XT.ii_ge_f ((own_lt (by omega) (by omega)).mpr hil)) rfl ?_
    refine g_aloadN W d5_14 (q := 15) rfl rfl rfl ?_
    refine g_iload W d5_15 (q := 17) rfl rfl ?_
    refine g_aloadN W d5_17 (q := 18) rfl rfl rfl ?_
    refine g_iloadN W d5_18 (q := 19) rfl rfl ?_
    refine g_caload W (W.rd hP) (own_nn (by omega)) (i := i) (own_clamp (by omega)) (v := .int d) (by rw [List.getElem?_map, hd]; rfl) d5_19 (q := 20) rfl ?_
    refine g_static W (con_putC l Z a0 E0 O P u (fill16 cs i) i d (by rw [fill16_len (by omega)]; omega) (by rw [fill16_len (by omega)]; omega)) (argsL := [(.ref u), (.int i.toInt32), (.int d)]) (rest := []) rfl rfl pd_1 rfl (own_w hw 113 rfl) (own_w hw 114 rfl) (own_w hw 73 rfl) (own_w hw 115 rfl) (by decide) d5_20 (q := 23) rfl rfl (Nat.le_of_ble_eq_true rfl) (Nat.le_of_ble_eq_true rfl) hk hn ?_
    rintro _ _ _ T ⟨rfl, rfl, rfl⟩ W
    rw [fill16_step hd] at W
    refine g_iinc W d5_23 (q := 26) (z := (i + 1).toInt32) (L' := #[.val (.ref a), .val (.int (i + 1).toInt32), .val (.int cs.length.toInt32), .val (.ref u), .val (.int i.toInt32)]) rfl (own_succ (by omega)) rfl rfl ?_
    refine g_iinc W d5_26 (q := 29) (z := (i + 1).toInt32) (L' := #[.val (.ref a), .val (.int (i + 1).toInt32), .val (.int cs.length.toInt32), .val (.ref u), .val (.int (i + 1).toInt32)]) rfl (own_succ (by omega)) rfl rfl ?_
    refine g_goto W d5_29 (q := 8) (by decide) (by decide) ?_
    exact ih (i + 1) (by omega) T W
theorem ef_tb (m : MethodId) (a : Addr) (i : Int32) (j : Int32) : entryFrame m #[(.ref a), (.int i), (.int j)] 5 = mkF m 0 #[.val (.ref a), .val (.int i), .val (.int j), .unset, .unset] [] := by first | (simp [entryFrame, mkF, argsToLocals, Value.category]; done) | rfl
theorem pd_2 : parseMethodDescriptor "(I)[B" = some ⟨[.int], (some (.array .byte))⟩ := by decide +kernel
set_option maxRecDepth 65536 in
set_option maxHeartbeats 40000000 in
theorem con_tb {kn : Prop} (l : Launch) (Z : State) (a0 : Array Value) (E0 : Env0 Z a0) (O P : List Ent) (a : Addr) (cs : List Int32) (N : Nat) (hN : cs.length ≤ N) (hN2 : N ≤ 60000) (hP : (a, ArrC Z .char (cs.map .int)) ∈ P) :
    Con kn l Z EL0 (⟨"java/lang/StringUTF16", "toBytes", "([CII)[B"⟩ : MethodName) jdk_52_method_14_code 5 (some (.array .byte)) [] ({ frames := 2, cells := 1, slots := 2 * N, locals := 32 } : Room) #[.ref a, .int (0 : Int32), .int cs.length.toInt32] O P (fun v O' P' => ∃ u, v = some (.ref u) ∧ O' = (u, ArrC Z .byte (enc16 cs)) :: O ∧ P = P') := by
  obtain ⟨hw, hs0, hEL, hS, ⟨cs0, hC0, hcs0⟩, ⟨fv, hFv, hfv⟩, hAD, hHI, hLO⟩ := id E0
  refine con_intro (plainFor_of_name pn_0) hEL (fun m => ef_tb m _ _ _) ?_
  intro p e s m below meth c T W hnm
  refine g_iloadN W d5_0 (q := 1) rfl rfl ?_
  refine g_static W (con_nbf l Z a0 E0 O P cs.length N hN hN2) (argsL := [(.int cs.length.toInt32)]) (rest := []) rfl rfl pd_2 rfl (own_w hw 106 rfl) (own_w hw 107 rfl) (own_w hw 73 rfl) (own_w hw 108 rfl) (by decide) d5_1 (q := 4) rfl rfl (Nat.le_of_ble_eq_true rfl) (Nat.le_of_ble_eq_true rfl) (Nat.le_of_ble_eq_true rfl) (by dsimp only; omega) ?_
  rintro _ _ _ T ⟨u, rfl, rfl, rfl⟩ W
  refine g_astoreN W d5_4 (q := 5) (L' := #[.val (.ref a), .val (.int (0 : Int32)), .val (.int cs.length.toInt32), .val (.ref u), .unset]) rfl rfl rfl ?_
  refine g_iconst W (v := (0 : Int32)) d5_5 (q := 6) rfl rfl ?_
  refine g_istore W d5_6 (q := 8) (L' := #[.val (.ref a), .val (.int (0 : Int32)), .val (.int cs.length.toInt32), .val (.ref u), .val (.int (0 : Int32))]) rfl rfl ?_
  exact tb_loop E0 (by omega) hP (Nat.le_of_ble_eq_true rfl) (by dsimp only; omega) ⟨u, rfl, rfl, rfl⟩ cs.length 0 (Nat.zero_add _) T W
theorem d6_0 : decode jdk_52_method_16_code 0 = .ok (.iload_n 2, 1) := by decide +kernel
theorem d6_1 : decode jdk_52_method_16_code 1 = .ok (.newarray .byte, 2) := by decide +kernel
theorem d6_3 : decode jdk_52_method_16_code 3 = .ok (.astore_n 3, 1) := by decide +kernel
theorem d6_4 : decode jdk_52_method_16_code 4 = .ok (.aload_n 0, 1) := by decide +kernel
theorem d6_5 : decode jdk_52_method_16_code 5 = .ok (.iload_n 1, 1) := by decide +kernel
theorem d6_6 : decode jdk_52_method_16_code 6 = .ok (.aload_n 3, 1) := by decide +kernel
theorem d6_7 : decode jdk_52_method_16_code 7 = .ok (.iconst 0, 1) := by decide +kernel
theorem d6_8 : decode jdk_52_method_16_code 8 = .ok (.iload_n 2, 1) := by decide +kernel
theorem d6_9 : decode jdk_52_method_16_code 9 = .ok (.invokestatic 115, 3) := by decide +kernel
theorem d6_12 : decode jdk_52_method_16_code 12 = .ok (.istore 4, 2) := by decide +kernel
theorem d6_14 : decode jdk_52_method_16_code 14 = .ok (.iload 4, 2) := by decide +kernel
theorem d6_16 : decode jdk_52_method_16_code 16 = .ok (.iload_n 2, 1) := by decide +kernel
theorem d6_17 : decode jdk_52_method_16_code 17 = .ok (.if_icmp .eq 40, 3) := by decide +kernel
theorem d6_20 : decode jdk_52_method_16_code 20 = .ok (.aload_n 0, 1) := by decide +kernel
theorem d6_21 : decode jdk_52_method_16_code 21 = .ok (.iload_n 1, 1) := by decide +kernel
theorem d6_22 : decode jdk_52_method_16_code 22 = .ok (.iload_n 2, 1) := by decide +kernel
theorem d6_23 : decode jdk_52_method_16_code 23 = .ok (.invokestatic 119, 3) := by decide +kernel
theorem d6_26 : decode jdk_52_method_16_code 26 = .ok (.astore 5, 2) := by decide +kernel
theorem d6_28 : decode jdk_52_method_16_code 28 = .ok (.aload 5, 2) := by decide +kernel
theorem d6_30 : decode jdk_52_method_16_code 30 = .ok (.iload 4, 2) := by decide +kernel
theorem d6_32 : decode jdk_52_method_16_code 32 = .ok (.invokestatic 71, 3) := by decide +kernel
theorem d6_35 : decode jdk_52_method_16_code 35 = .ok (.sipush 255, 3) := by decide +kernel
theorem d6_38 : decode jdk_52_method_16_code 38 = .ok (.if_icmp .gt 16, 3) := by decide +kernel
theorem d6_41 : decode jdk_52_method_16_code 41 = .ok (.aload 5, 2) := by decide +kernel
theorem d6_43 : decode jdk_52_method_16_code 43 = .ok (.iconst 0, 1) := by decide +kernel
theorem d6_44 : decode jdk_52_method_16_code 44 = .ok (.aload_n 3, 1) := by decide +kernel
theorem d6_45 : decode jdk_52_method_16_code 45 = .ok (.iconst 0, 1) := by decide +kernel
theorem d6_46 : decode jdk_52_method_16_code 46 = .ok (.iload_n 2, 1) := by decide +kernel
theorem d6_50 : decode jdk_52_method_16_code 50 = .ok (.iload_n 2, 1) := by decide +kernel
theorem d6_51 : decode jdk_52_method_16_code 51 = .ok (.if_icmp .eq 6, 3) := by decide +kernel
theorem d6_54 : decode jdk_52_method_16_code 54 = .ok (.aload 5, 2) := by decide +kernel
theorem d6_56 : decode jdk_52_method_16_code 56 = .ok (.areturn, 1) := by decide +kernel
theorem d6_57 : decode jdk_52_method_16_code 57 = .ok (.aload_n 3, 1) := by decide +kernel
theorem d6_58 : decode jdk_52_method_16_code 58 = .ok (.areturn, 1) := by decide +kernel
theorem ef_comp2 (m : MethodId) (a : Addr) (i1 : Int32) (i3 : Int32) : entryFrame m #[(.ref a), (.int i1), (.int i3)] 6 = mkF m 0 #[.val (.ref a), .val (.int i1), .val (.int i3), .unset, .unset, .unset] [] := by first | (simp [entryFrame, mkF, argsToLocals, Value.category]; done) | rfl
theorem pd_3 : parseMethodDescriptor "([CI[BII)I" = some ⟨[(.array .char), .int, (.array .byte), .int, .int], (some .int)⟩ := by decide +kernel
theorem pd_4 : parseMethodDescriptor "([CII)[B" = some ⟨[(.array .char), .int, .int], (some (.array .byte))⟩ := by decide +kernel
theorem pd_5 : parseMethodDescriptor "([BI)C" = some ⟨[(.array .byte), .int], (some .char)⟩ := by decide +kernel
set_option maxRecDepth 65536 in
set_option maxHeartbeats 40000000 in
theorem con_comp2 {kn : Prop} (l : Launch) (Z : State) (a0 : Array Value) (E0 : Env0 Z a0) (O P : List Ent) (a : Addr) (cs : List Int32) (N : Nat) (hN : cs.length ≤ N) (hN2 : N ≤ 60000) (hr : ∀ d ∈ cs, 0 ≤ d.toInt ∧ d.toInt < 65536) (hP : (a, ArrC Z .char (cs.map .int)) ∈ P) :
    Con kn l Z EL0 (⟨"java/lang/StringUTF16", "compress", "([CII)[B"⟩ : MethodName) jdk_52_method_16_code 6 (some (.array .byte)) [] ({ frames := 3, cells := 2, slots := 3 * N, locals := 48 } : Room) #[.ref a, .int (0 : Int32), .int cs.length.toInt32] O P (fun v O' P' => ∃ b, v = some (.ref b) ∧ P = P' ∧ ((Lat cs ∧ O' = (b, ArrC Z .byte (enc cs)) :: O) ∨ (¬ Lat cs ∧ O' = (b, ArrC Z .byte (enc16 cs)) :: O))) := by
  obtain ⟨hw, hs0, hEL, hS, ⟨cs0, hC0, hcs0⟩, ⟨fv, hFv, hfv⟩, hAD, hHI, hLO⟩ := id E0
  refine con_intro (plainFor_of_name pn_0) hEL (fun m => ef_comp2 m _ _ _) ?_
  intro p e s m below meth c T W hnm
  refine g_iloadN W d6_0 (q := 1) rfl rfl ?_
  have hlen : cs.length < 2 ^ 31 := by omega
  refine g_newA W (ty := .byte) (cap := N) (vs := List.replicate cs.length (.int 0)) rfl (own_w hw 19 rfl) (own_nn hlen) (by rw [own_clamp hlen]; exact hN) (by omega) rfl (by rw [own_clamp hlen]; rfl) d6_1 (q := 3) rfl (Nat.le_of_ble_eq_true rfl) (by dsimp only; omega) fun b T W => ?_
  refine g_astoreN W d6_3 (q := 4) (L' := #[.val (.ref a), .val (.int (0 : Int32)), .val (.int cs.length.toInt32), .val (.ref b), .unset, .unset]) rfl rfl rfl ?_
  refine g_aloadN W d6_4 (q := 5) rfl rfl rfl ?_
  refine g_iloadN W d6_5 (q := 6) rfl rfl ?_
  refine g_aloadN W d6_6 (q := 7) rfl rfl rfl ?_
  refine g_iconst W (v := (0 : Int32)) d6_7 (q := 8) rfl rfl ?_
  refine g_iloadN W d6_8 (q := 9) rfl rfl ?_
  refine g_static W (con_comp1 l Z a0 E0 O P a b cs hlen hP) (argsL := [(.ref a), (.int (0 : Int32)), (.ref b), (.int (0 : Int32)), (.int cs.length.toInt32)]) (rest := []) rfl rfl pd_3 rfl (own_w hw 75 rfl) (own_w hw 76 rfl) (own_w hw 73 rfl) (own_w hw 77 rfl) (by decide) d6_9 (q := 12) rfl rfl (Nat.le_of_ble_eq_true rfl) (Nat.le_of_ble_eq_true rfl) (Nat.le_of_ble_eq_true rfl) (by dsimp only; omega) ?_
  rintro _ _ _ T ⟨rfl, hcmp⟩ W
  rcases hcmp with ⟨hlat, rfl, rfl⟩ | ⟨i, d, bs, hd, hgt, rfl, rfl⟩
  · refine g_istore W d6_12 (q := 14) (L' := #[.val (.ref a), .val (.int (0 : Int32)), .val (.int cs.length.toInt32), .val (.ref b), .val (.int cs.length.toInt32), .unset]) rfl rfl ?_
    refine g_iload W d6_14 (q := 16) rfl rfl ?_
    refine g_iloadN W d6_16 (q := 17) rfl rfl ?_
    refine g_icY W d6_17 (q := 57) (XT.ii_eq_t rfl) (by decide) (by decide) ?_
    refine g_aloadN W d6_57 (q := 58) rfl rfl rfl ?_
    exact g_retA W rfl rfl rfl d6_58 (Nat.le_of_ble_eq_true rfl) (by dsimp only; omega) ⟨b, rfl, rfl, Or.inl ⟨hlat, rfl⟩⟩
  · have hil : i < cs.length := (List.getElem?_eq_some_iff.mp hd).1
    refine g_istore W d6_12 (q := 14) (L' := #[.val (.ref a), .val (.int (0 : Int32)), .val (.int cs.length.toInt32), .val (.ref b), .val (.int i.toInt32), .unset]) rfl rfl ?_
    refine g_iload W d6_14 (q := 16) rfl rfl ?_
    refine g_iloadN W d6_16 (q := 17) rfl rfl ?_
    refine g_icN W d6_17 (q := 20) (XT.ii_eq_f (fun z => absurd ((own_eq (by omega) hlen).mp z) (by omega))) rfl ?_
    refine g_aloadN W d6_20 (q := 21) rfl rfl rfl ?_
    refine g_iloadN W d6_21 (q := 22) rfl rfl ?_
    refine g_iloadN W d6_22 (q := 23) rfl rfl ?_
    refine g_static W (con_tb l Z a0 E0 _ P a cs N hN hN2 hP) (argsL := [(.ref a), (.int (0 : Int32)), (.int cs.length.toInt32)]) (rest := []) rfl rfl pd_4 rfl (own_w hw 103 rfl) (own_w hw 104 rfl) (own_w hw 73 rfl) (own_w hw 105 rfl) (by decide) d6_23 (q := 26) rfl rfl (Nat.le_of_ble_eq_true rfl) (Nat.le_of_ble_eq_true rfl) (Nat.le_of_ble_eq_true rfl) (by dsimp only; omega) ?_
    rintro _ _ _ T ⟨u, rfl, rfl, rfl⟩ W
    refine g_astore W d6_26 (q := 28) (L' := #[.val (.ref a), .val (.int (0 : Int32)), .val (.int cs.length.toInt32), .val (.ref b), .val (.int i.toInt32), .val (.ref u)]) rfl rfl rfl ?_
    refine g_aload W d6_28 (q := 30) rfl rfl rfl ?_
    refine g_iload W d6_30 (q := 32) rfl rfl ?_
    refine g_static W (con_getC l Z a0 E0 _ P u cs i d (by omega) hd (hr _ (List.mem_of_getElem? hd))) (argsL := [(.ref u), (.int i.toInt32)]) (rest := []) rfl rfl pd_5 rfl (own_w hw 119 rfl) (own_w hw 120 rfl) (own_w hw 73 rfl) (own_w hw 121 rfl) (by decide) d6_32 (q := 35) rfl rfl (Nat.le_of_ble_eq_true rfl) (Nat.le_of_ble_eq_true rfl) (Nat.le_of_ble_eq_true rfl) (by dsimp only; omega) ?_
    rintro _ _ _ T ⟨rfl, rfl, rfl⟩ W
    refine g_sipush W (v := (255 : Int32)) d6_35 (q := 38) rfl rfl ?_
    refine g_icY W d6_38 (q := 54) (XT.ii_gt_t hgt) (by decide) (by decide) ?_
    refine g_aload W d6_54 (q := 56) rfl rfl rfl ?_
    have W := W.drop 1
    exact g_retA W rfl rfl rfl d6_56 (Nat.le_of_ble_eq_true rfl) (by dsimp only; omega) ⟨u, rfl, rfl, Or.inr ⟨fun h => h i d hd hgt, rfl⟩⟩
theorem d7_0 : decode jdk_52_method_15_code 0 = .ok (.iload_n 1, 1) := by decide +kernel
theorem d7_1 : decode jdk_52_method_15_code 1 = .ok (.aload_n 0, 1) := by decide +kernel
theorem d7_2 : decode jdk_52_method_15_code 2 = .ok (.arraylength, 1) := by decide +kernel
theorem d7_3 : decode jdk_52_method_15_code 3 = .ok (.isub, 1) := by decide +kernel
theorem d7_4 : decode jdk_52_method_15_code 4 = .ok (.bipush 31, 2) := by decide +kernel
theorem d7_6 : decode jdk_52_method_15_code 6 = .ok (.iushr, 1) := by decide +kernel
theorem d7_7 : decode jdk_52_method_15_code 7 = .ok (.i2b, 1) := by decide +kernel
theorem d7_8 : decode jdk_52_method_15_code 8 = .ok (.ireturn, 1) := by decide +kernel
theorem ef_cfal (m : MethodId) (a : Addr) (i1 : Int32) : entryFrame m #[(.ref a), (.int i1)] 2 = mkF m 0 #[.val (.ref a), .val (.int i1)] [] := by first | (simp [entryFrame, mkF, argsToLocals, Value.category]; done) | rfl
set_option maxRecDepth 65536 in
set_option maxHeartbeats 40000000 in
theorem con_cfal {kn : Prop} (l : Launch) (Z : State) (a0 : Array Value) (E0 : Env0 Z a0) (O P : List Ent) (b : Addr) (bs : List Value) (zn z : Int32) (hz : (XT.ushr (zn - bs.length.toInt32) 31).toInt8.toInt32 = z) :
    Con kn l Z EL0 (⟨"java/lang/StringUTF16", "coderFromArrayLen", "([BI)B"⟩ : MethodName) jdk_52_method_15_code 2 (some .byte) [] ({ frames := 0, cells := 0, slots := 0, locals := 0 } : Room) #[.ref b, .int zn] ((b, ArrC Z .byte bs) :: O) P (fun v O' P' => v = some (.int z) ∧ O' = (b, ArrC Z .byte bs) :: O ∧ P = P') := by
  obtain ⟨hw, hs0, hEL, hS, ⟨cs0, hC0, hcs0⟩, ⟨fv, hFv, hfv⟩, hAD, hHI, hLO⟩ := id E0
  refine con_intro (plainFor_of_name pn_0) hEL (fun m => ef_cfal m _ _) ?_
  intro p e s m below meth c T W hnm
  refine g_iloadN W d7_0 (q := 1) rfl rfl ?_
  refine g_aloadN W d7_1 (q := 2) rfl rfl rfl ?_
  refine g_len W (W.ow (i := 0) rfl) (z := bs.length.toInt32) rfl d7_2 (q := 3) rfl ?_
  refine g_isub W d7_3 (q := 4) (z := (zn - bs.length.toInt32)) rfl rfl ?_
  refine g_bipush W (v := (31 : Int32)) d7_4 (q := 6) rfl rfl ?_
  refine g_iushr W d7_6 (q := 7) (z := (XT.ushr (zn - bs.length.toInt32) (31 : Int32))) rfl rfl ?_
  refine g_i2b W d7_7 (q := 8) (z := z) hz rfl ?_
  exact g_retI W rfl (Or.inr (Or.inr (Or.inl rfl))) (by rw [← hz]; exact XT.narrow_b _) d7_8 (Nat.le_of_ble_eq_true rfl) (Nat.le_of_ble_eq_true rfl) ⟨rfl, rfl, rfl⟩
theorem d8_0 : decode jdk_42_method_149_code 0 = .ok (.aload_n 0, 1) := by decide +kernel
theorem d8_1 : decode jdk_42_method_149_code 1 = .ok (.invokespecial 1, 3) := by decide +kernel
theorem d8_4 : decode jdk_42_method_149_code 4 = .ok (.iload_n 3, 1) := by decide +kernel
theorem d8_5 : decode jdk_42_method_149_code 5 = .ok (.ifCond .ne 22, 3) := by decide +kernel
theorem d8_8 : decode jdk_42_method_149_code 8 = .ok (.aload_n 0, 1) := by decide +kernel
theorem d8_9 : decode jdk_42_method_149_code 9 = .ok (.ldc 7, 2) := by decide +kernel
theorem d8_11 : decode jdk_42_method_149_code 11 = .ok (.getfield 9, 3) := by decide +kernel
theorem d8_14 : decode jdk_42_method_149_code 14 = .ok (.putfield 9, 3) := by decide +kernel
theorem d8_17 : decode jdk_42_method_149_code 17 = .ok (.aload_n 0, 1) := by decide +kernel
theorem d8_18 : decode jdk_42_method_149_code 18 = .ok (.ldc 7, 2) := by decide +kernel
theorem d8_20 : decode jdk_42_method_149_code 20 = .ok (.getfield 15, 3) := by decide +kernel
theorem d8_23 : decode jdk_42_method_149_code 23 = .ok (.putfield 15, 3) := by decide +kernel
theorem d8_26 : decode jdk_42_method_149_code 26 = .ok (.return_, 1) := by decide +kernel
theorem d8_27 : decode jdk_42_method_149_code 27 = .ok (.getstatic 38, 3) := by decide +kernel
theorem d8_30 : decode jdk_42_method_149_code 30 = .ok (.ifCond .eq 28, 3) := by decide +kernel
theorem d8_33 : decode jdk_42_method_149_code 33 = .ok (.aload_n 1, 1) := by decide +kernel
theorem d8_34 : decode jdk_42_method_149_code 34 = .ok (.iload_n 2, 1) := by decide +kernel
theorem d8_35 : decode jdk_42_method_149_code 35 = .ok (.iload_n 3, 1) := by decide +kernel
theorem d8_36 : decode jdk_42_method_149_code 36 = .ok (.invokestatic 177, 3) := by decide +kernel
theorem d8_39 : decode jdk_42_method_149_code 39 = .ok (.astore 5, 2) := by decide +kernel
theorem d8_41 : decode jdk_42_method_149_code 41 = .ok (.aload_n 0, 1) := by decide +kernel
theorem d8_42 : decode jdk_42_method_149_code 42 = .ok (.aload 5, 2) := by decide +kernel
theorem d8_44 : decode jdk_42_method_149_code 44 = .ok (.iload_n 3, 1) := by decide +kernel
theorem d8_45 : decode jdk_42_method_149_code 45 = .ok (.invokestatic 47, 3) := by decide +kernel
theorem d8_48 : decode jdk_42_method_149_code 48 = .ok (.putfield 15, 3) := by decide +kernel
theorem d8_51 : decode jdk_42_method_149_code 51 = .ok (.aload_n 0, 1) := by decide +kernel
theorem d8_52 : decode jdk_42_method_149_code 52 = .ok (.aload 5, 2) := by decide +kernel
theorem d8_54 : decode jdk_42_method_149_code 54 = .ok (.putfield 9, 3) := by decide +kernel
theorem d8_57 : decode jdk_42_method_149_code 57 = .ok (.return_, 1) := by decide +kernel
theorem d8_58 : decode jdk_42_method_149_code 58 = .ok (.aload_n 0, 1) := by decide +kernel
theorem d8_59 : decode jdk_42_method_149_code 59 = .ok (.iconst 1, 1) := by decide +kernel
theorem d8_60 : decode jdk_42_method_149_code 60 = .ok (.putfield 15, 3) := by decide +kernel
theorem d8_63 : decode jdk_42_method_149_code 63 = .ok (.aload_n 0, 1) := by decide +kernel
theorem d8_64 : decode jdk_42_method_149_code 64 = .ok (.aload_n 1, 1) := by decide +kernel
theorem d8_65 : decode jdk_42_method_149_code 65 = .ok (.iload_n 2, 1) := by decide +kernel
theorem d8_66 : decode jdk_42_method_149_code 66 = .ok (.iload_n 3, 1) := by decide +kernel
theorem d8_70 : decode jdk_42_method_149_code 70 = .ok (.putfield 9, 3) := by decide +kernel
theorem d8_73 : decode jdk_42_method_149_code 73 = .ok (.return_, 1) := by decide +kernel
theorem ef_sI2 (m : MethodId) (x : Addr) (a : Addr) (i1 : Int32) (i2 : Int32) : entryFrame m #[(.ref x), (.ref a), (.int i1), (.int i2), (.null)] 6 = mkF m 0 #[.val (.ref x), .val (.ref a), .val (.int i1), .val (.int i2), .val (.null), .unset] [] := by first | (simp [entryFrame, mkF, argsToLocals, Value.category]; done) | rfl
theorem pd_6 : parseMethodDescriptor "([BI)B" = some ⟨[(.array .byte), .int], (some .byte)⟩ := by decide +kernel
theorem pn_2 : plainName "java/lang/String" = true := by first | (simp [plainName, overriddenIn]; done) | decide +kernel
set_option maxRecDepth 65536 in
set_option maxHeartbeats 40000000 in
theorem con_sI2 {kn : Prop} (l : Launch) (Z : State) (a0 : Array Value) (E0 : Env0 Z a0) (O P : List Ent) (x a : Addr) (cs : List Int32) (N : Nat) (hN : cs.length ≤ N) (hN2 : N ≤ 60000) (hr : ∀ d ∈ cs, 0 ≤ d.toInt ∧ d.toInt < 65536) (hP : (a, ArrC Z .char (cs.map .int)) ∈ P) :
    Con kn l Z EL0 (⟨"java/lang/String", "<init>", "([CIILjava/lang/Void;)V"⟩ : MethodName) jdk_42_method_149_code 6 none [] ({ frames := 4, cells := 4, slots := 3 * N + 8, locals := 65 } : Room) #[.ref x, .ref a, .int (0 : Int32), .int cs.length.toInt32, .null] ((x, ObjC Z "java/lang/String" shStr [.null, .int (0 : Int32)]) :: O) P (fun v O' P' => v = none ∧ O = O' ∧ (∀ y ∈ P, y ∈ P') ∧ IsStr Z P' x cs) := by
  obtain ⟨hw, hs0, hEL, hS, ⟨cs0, hC0, hcs0⟩, ⟨fv, hFv, hfv⟩, hAD, hHI, hLO⟩ := id E0
  refine con_intro (plainFor_of_name pn_2) hEL (fun m => ef_sI2 m _ _ _ _) ?_
  intro p e s m below meth c T W hnm
  refine g_aloadN W d8_0 (q := 1) rfl rfl rfl ?_
  refine g_objInit W (own_w hw 15 rfl) (own_w hw 16 rfl) (own_w hw 17 rfl) d8_1 (q := 4) rfl rfl (Nat.le_of_ble_eq_true rfl) (Nat.le_of_ble_eq_true rfl) fun T W => ?_
  refine g_iloadN W d8_4 (q := 5) rfl rfl ?_
  have hlen : cs.length < 2 ^ 31 := by omega
  by_cases hz : cs.length.toInt32 = 0
  · refine g_ifN W d8_5 (q := 8) (XT.i0_ne_f hz) rfl ?_
    obtain rfl : cs = [] := List.length_eq_zero_iff.mp ((own_eq (j := 0) hlen (by decide)).mp hz)
    refine g_aloadN W d8_8 (q := 9) rfl rfl rfl ?_
    refine g_ldcH W (vs := enc []) (own_w hw 18 rfl) hS (by decide +kernel) lit_18 (by decide) enc_fits d8_9 (q := 11) rfl (nn := 0) (by decide +kernel) (Nat.le_of_ble_eq_true rfl) (Nat.le_of_ble_eq_true rfl) (by dsimp only; omega) fun e1 b1 T W => ?_
    refine g_getF W (W.rd (.head _)) (i := 0) (v := .ref b1) rfl rfl (own_w hw 24 rfl) d8_11 (q := 14) rfl fun T W => ?_
    refine g_putF W (i := 0) (j := 0) rfl (shStr_ok hw) shStr_nd rfl rfl (own_w hw 24 rfl) (Or.inr ⟨(own_w hw 20 rfl), rfl, hnm⟩) (own_w hw 6 rfl) (ty := (.array .byte)) (by decide) rfl rfl d8_14 (q := 17) rfl (vs' := [.ref b1, .int (0 : Int32)]) rfl (O' := (x, ObjC Z "java/lang/String" shStr [.ref b1, .int (0 : Int32)]) :: O) rfl fun T W => ?_
    refine g_aloadN W d8_17 (q := 18) rfl rfl rfl ?_
    refine g_ldcH W (vs := enc []) (own_w hw 18 rfl) hS (by decide +kernel) lit_18 (by decide) enc_fits d8_18 (q := 20) rfl (nn := 0) (by decide +kernel) (Nat.le_of_ble_eq_true rfl) (Nat.le_of_ble_eq_true rfl) (by dsimp only; omega) fun e2 b2 T W => ?_
    refine g_getF W (W.rd (.head _)) (i := 1) (v := .int (0 : Int32)) rfl rfl (own_w hw 25 rfl) d8_20 (q := 23) rfl fun T W => ?_
    refine g_putF W (i := 0) (j := 1) rfl (shStr_ok hw) shStr_nd rfl rfl (own_w hw 25 rfl) (Or.inr ⟨(own_w hw 21 rfl), rfl, hnm⟩) (own_w hw 6 rfl) (ty := .byte) (by decide) rfl rfl d8_23 (q := 26) rfl (vs' := [.ref b1, .int (0 : Int32)]) rfl (O' := (x, ObjC Z "java/lang/String" shStr [.ref b1, .int (0 : Int32)]) :: O) rfl fun T W => ?_
    have W := W.share (i := 0) rfl
    exact g_retV W rfl d8_26 (Nat.le_of_ble_eq_true rfl) (by dsimp only; omega) ⟨rfl, rfl, fun y hy => .tail _ (.tail _ (.tail _ (.tail _ (.tail _ hy)))), b1, Or.inl ⟨lat_nil, .head _, .tail _ (.tail _ (.tail _ (.tail _ (.head _))))⟩⟩
  · refine g_ifY W d8_5 (q := 27) (XT.i0_ne_t hz) (by decide) (by decide) ?_
    have h0 : 0 < cs.length := Nat.pos_of_ne_zero fun z => hz (by rw [z]; rfl)
    refine g_getS W hC0 (own_w hw 59 rfl) d8_27 (q := 30) rfl fun T W => ?_
    refine g_ifN W d8_30 (q := 33) (XT.i0_eq_f hcs0) rfl ?_
    refine g_aloadN W d8_33 (q := 34) rfl rfl rfl ?_
    refine g_iloadN W d8_34 (q := 35) rfl rfl ?_
    refine g_iloadN W d8_35 (q := 36) rfl rfl ?_
    refine g_static W (con_comp2 l Z a0 E0 _ P a cs N hN hN2 hr hP) (argsL := [(.ref a), (.int (0 : Int32)), (.int cs.length.toInt32)]) (rest := []) rfl rfl pd_4 rfl (own_w hw 71 rfl) (own_w hw 72 rfl) (own_w hw 73 rfl) (own_w hw 74 rfl) (by decide) d8_36 (q := 39) rfl rfl (Nat.le_of_ble_eq_true rfl) (Nat.le_of_ble_eq_true rfl) (Nat.le_of_ble_eq_true rfl) (by dsimp only; omega) ?_
    rintro _ _ _ T ⟨b, rfl, rfl, hcmp⟩ W
    rcases hcmp with ⟨hlat, rfl⟩ | ⟨hlat, rfl⟩
    · refine g_astore W d8_39 (q := 41) (L' := #[.val (.ref x), .val (.ref a), .val (.int (0 : Int32)), .val (.int cs.length.toInt32), .val (.null), .val (.ref b)]) rfl rfl rfl ?_
      refine g_aloadN W d8_41 (q := 42) rfl rfl rfl ?_
      refine g_aload W d8_42 (q := 44) rfl rfl rfl ?_
      refine g_iloadN W d8_44 (q := 45) rfl rfl ?_
      refine g_static W (con_cfal l Z a0 E0 _ P b (enc cs) cs.length.toInt32 (0 : Int32) (by rw [enc_len]; exact own_cf0 _)) (argsL := [(.ref b), (.int cs.length.toInt32)]) (rest := [(.ref x)]) rfl rfl pd_6 rfl (own_w hw 78 rfl) (own_w hw 79 rfl) (own_w hw 73 rfl) (own_w hw 80 rfl) (by decide) d8_45 (q := 48) rfl rfl (Nat.le_of_ble_eq_true rfl) (Nat.le_of_ble_eq_true rfl) (Nat.le_of_ble_eq_true rfl) (by dsimp only; omega) ?_
      rintro _ _ _ T ⟨rfl, rfl, rfl⟩ W
      refine g_putF W (i := 1) (j := 1) rfl (shStr_ok hw) shStr_nd rfl rfl (own_w hw 25 rfl) (Or.inr ⟨(own_w hw 21 rfl), rfl, hnm⟩) (own_w hw 6 rfl) (ty := .byte) (by decide) rfl rfl d8_48 (q := 51) rfl (vs' := [.null, .int (0 : Int32)]) rfl (O' := (b, ArrC Z .byte (enc cs)) :: (x, ObjC Z "java/lang/String" shStr [.null, .int (0 : Int32)]) :: O) rfl fun T W => ?_
      refine g_aloadN W d8_51 (q := 52) rfl rfl rfl ?_
      refine g_aload W d8_52 (q := 54) rfl rfl rfl ?_
      refine g_putF W (i := 1) (j := 0) rfl (shStr_ok hw) shStr_nd rfl rfl (own_w hw 24 rfl) (Or.inr ⟨(own_w hw 20 rfl), rfl, hnm⟩) (own_w hw 6 rfl) (ty := (.array .byte)) (by decide) rfl rfl d8_54 (q := 57) rfl (vs' := [.ref b, .int (0 : Int32)]) rfl (O' := (b, ArrC Z .byte (enc cs)) :: (x, ObjC Z "java/lang/String" shStr [.ref b, .int (0 : Int32)]) :: O) rfl fun T W => ?_
      have W := W.share (i := 0) rfl
      have W := W.share (i := 0) rfl
      exact g_retV W rfl d8_57 (Nat.le_of_ble_eq_true rfl) (by dsimp only; omega) ⟨rfl, rfl, fun y hy => .tail _ (.tail _ hy), b, Or.inl ⟨hlat, .head _, .tail _ (.head _)⟩⟩
    · refine g_astore W d8_39 (q := 41) (L' := #[.val (.ref x), .val (.ref a), .val (.int (0 : Int32)), .val (.int cs.length.toInt32), .val (.null), .val (.ref b)]) rfl rfl rfl ?_
      refine g_aloadN W d8_41 (q := 42) rfl rfl rfl ?_
      refine g_aload W d8_42 (q := 44) rfl rfl rfl ?_
      refine g_iloadN W d8_44 (q := 45) rfl rfl ?_
      refine g_static W (con_cfal l Z a0 E0 _ P b (enc16 cs) cs.length.toInt32 (1 : Int32) (by rw [enc16_len]; exact own_cf1 (by omega) (by omega))) (argsL := [(.ref b), (.int cs.length.toInt32)]) (rest := [(.ref x)]) rfl rfl pd_6 rfl (own_w hw 78 rfl) (own_w hw 79 rfl) (own_w hw 73 rfl) (own_w hw 80 rfl) (by decide) d8_45 (q := 48) rfl rfl (Nat.le_of_ble_eq_true rfl) (Nat.le_of_ble_eq_true rfl) (Nat.le_of_ble_eq_true rfl) (by dsimp only; omega) ?_
      rintro _ _ _ T ⟨rfl, rfl, rfl⟩ W
      refine g_putF W (i := 1) (j := 1) rfl (shStr_ok hw) shStr_nd rfl rfl (own_w hw 25 rfl) (Or.inr ⟨(own_w hw 21 rfl), rfl, hnm⟩) (own_w hw 6 rfl) (ty := .byte) (by decide) rfl rfl d8_48 (q := 51) rfl (vs' := [.null, .int (1 : Int32)]) rfl (O' := (b, ArrC Z .byte (enc16 cs)) :: (x, ObjC Z "java/lang/String" shStr [.null, .int (1 : Int32)]) :: O) rfl fun T W => ?_
      refine g_aloadN W d8_51 (q := 52) rfl rfl rfl ?_
      refine g_aload W d8_52 (q := 54) rfl rfl rfl ?_
      refine g_putF W (i := 1) (j := 0) rfl (shStr_ok hw) shStr_nd rfl rfl (own_w hw 24 rfl) (Or.inr ⟨(own_w hw 20 rfl), rfl, hnm⟩) (own_w hw 6 rfl) (ty := (.array .byte)) (by decide) rfl rfl d8_54 (q := 57) rfl (vs' := [.ref b, .int (1 : Int32)]) rfl (O' := (b, ArrC Z .byte (enc16 cs)) :: (x, ObjC Z "java/lang/String" shStr [.ref b, .int (1 : Int32)]) :: O) rfl fun T W => ?_
      have W := W.share (i := 0) rfl
      have W := W.share (i := 0) rfl
      exact g_retV W rfl d8_57 (Nat.le_of_ble_eq_true rfl) (by dsimp only; omega) ⟨rfl, rfl, fun y hy => .tail _ (.tail _ hy), b, Or.inr ⟨hlat, .head _, .tail _ (.head _)⟩⟩
theorem d9_0 : decode jdk_42_method_3_code 0 = .ok (.aload_n 0, 1) := by decide +kernel
theorem d9_1 : decode jdk_42_method_3_code 1 = .ok (.aload_n 1, 1) := by decide +kernel
theorem d9_2 : decode jdk_42_method_3_code 2 = .ok (.iconst 0, 1) := by decide +kernel
theorem d9_3 : decode jdk_42_method_3_code 3 = .ok (.aload_n 1, 1) := by decide +kernel
theorem d9_4 : decode jdk_42_method_3_code 4 = .ok (.arraylength, 1) := by decide +kernel
theorem d9_5 : decode jdk_42_method_3_code 5 = .ok (.aconst_null, 1) := by decide +kernel
theorem d9_6 : decode jdk_42_method_3_code 6 = .ok (.invokespecial 27, 3) := by decide +kernel
theorem d9_9 : decode jdk_42_method_3_code 9 = .ok (.return_, 1) := by decide +kernel
theorem ef_sI1 (m : MethodId) (x : Addr) (a : Addr) : entryFrame m #[(.ref x), (.ref a)] 2 = mkF m 0 #[.val (.ref x), .val (.ref a)] [] := by first | (simp [entryFrame, mkF, argsToLocals, Value.category]; done) | rfl
theorem pd_7 : parseMethodDescriptor "([CIILjava/lang/Void;)V" = some ⟨[(.array .char), .int, .int, (.object "java/lang/Void")], none⟩ := by decide +kernel
set_option maxRecDepth 65536 in
set_option maxHeartbeats 40000000 in
theorem con_sI1 {kn : Prop} (l : Launch) (Z : State) (a0 : Array Value) (E0 : Env0 Z a0) (O P : List Ent) (x a : Addr) (cs : List Int32) (N : Nat) (hN : cs.length ≤ N) (hN2 : N ≤ 60000) (hr : ∀ d ∈ cs, 0 ≤ d.toInt ∧ d.toInt < 65536) (hP : (a, ArrC Z .char (cs.map .int)) ∈ P) :
    Con kn l Z EL0 (⟨"java/lang/String", "<init>", "([C)V"⟩ : MethodName) jdk_42_method_3_code 2 none [] ({ frames := 5, cells := 4, slots := 3 * N + 8, locals := 82 } : Room) #[.ref x, .ref a] ((x, ObjC Z "java/lang/String" shStr [.null, .int (0 : Int32)]) :: O) P (fun v O' P' => v = none ∧ O = O' ∧ (∀ y ∈ P, y ∈ P') ∧ IsStr Z P' x cs) := by
  obtain ⟨hw, hs0, hEL, hS, ⟨cs0, hC0, hcs0⟩, ⟨fv, hFv, hfv⟩, hAD, hHI, hLO⟩ := id E0
  refine con_intro (plainFor_of_name pn_2) hEL (fun m => ef_sI1 m _ _) ?_
  intro p e s m below meth c T W hnm
  refine g_aloadN W d9_0 (q := 1) rfl rfl rfl ?_
  refine g_aloadN W d9_1 (q := 2) rfl rfl rfl ?_
  refine g_iconst W (v := (0 : Int32)) d9_2 (q := 3) rfl rfl ?_
  refine g_aloadN W d9_3 (q := 4) rfl rfl rfl ?_
  refine g_len W (W.rd hP) (z := cs.length.toInt32) (by rw [List.length_map]) d9_4 (q := 5) rfl ?_
  refine g_null W d9_5 (q := 6) rfl ?_
  refine g_special W (con_sI2 l Z a0 E0 O P x a cs N hN hN2 hr hP) (argsL := [(.ref a), (.int (0 : Int32)), (.int cs.length.toInt32), (.null)]) (rest := []) rfl rfl rfl pd_7 rfl (own_w hw 11 rfl) (own_w hw 12 rfl) (own_w hw 7 rfl) (own_w hw 14 rfl) (by decide) d9_6 (q := 9) rfl rfl (Nat.le_of_ble_eq_true rfl) (Nat.le_of_ble_eq_true rfl) (Nat.le_of_ble_eq_true rfl) (by dsimp only; omega) ?_
  rintro _ _ _ T ⟨rfl, rfl, hsub, hstr⟩ W
  exact g_retV W rfl d9_9 (Nat.le_of_ble_eq_true rfl) (by dsimp only; omega) ⟨rfl, rfl, hsub, hstr⟩
theorem d10_0 : decode jdk_42_method_152_code 0 = .ok (.getstatic 38, 3) := by decide +kernel
theorem d10_3 : decode jdk_42_method_152_code 3 = .ok (.ifCond .eq 10, 3) := by decide +kernel
theorem d10_6 : decode jdk_42_method_152_code 6 = .ok (.aload_n 0, 1) := by decide +kernel
theorem d10_7 : decode jdk_42_method_152_code 7 = .ok (.getfield 15, 3) := by decide +kernel
theorem d10_10 : decode jdk_42_method_152_code 10 = .ok (.goto 4, 3) := by decide +kernel
theorem d10_13 : decode jdk_42_method_152_code 13 = .ok (.iconst 1, 1) := by decide +kernel
theorem d10_14 : decode jdk_42_method_152_code 14 = .ok (.ireturn, 1) := by decide +kernel
theorem ef_coder (m : MethodId) (x : Addr) : entryFrame m #[(.ref x)] 1 = mkF m 0 #[.val (.ref x)] [] := by first | (simp [entryFrame, mkF, argsToLocals, Value.category]; done) | rfl
set_option maxRecDepth 65536 in
set_option maxHeartbeats 40000000 in
theorem con_coder {kn : Prop} (l : Launch) (Z : State) (a0 : Array Value) (E0 : Env0 Z a0) (O P : List Ent) (x b : Addr) (cd : Int32) (hcd : narrow .byte (.int cd) = .int cd) (hx : (x, ObjC Z "java/lang/String" shStr [.ref b, .int cd]) ∈ P) :
    Con kn l Z EL0 (⟨"java/lang/String", "coder", "()B"⟩ : MethodName) jdk_42_method_152_code 1 (some .byte) [] ({ frames := 0, cells := 0, slots := 0, locals := 0 } : Room) #[.ref x] O P (fun v O' P' => v = some (.int cd) ∧ O = O' ∧ P = P') := by
  obtain ⟨hw, hs0, hEL, hS, ⟨cs0, hC0, hcs0⟩, ⟨fv, hFv, hfv⟩, hAD, hHI, hLO⟩ := id E0
  refine con_intro (plainFor_of_name pn_2) hEL (fun m => ef_coder m _) ?_
  intro p e s m below meth c T W hnm
  refine g_getS W hC0 (own_w hw 59 rfl) d10_0 (q := 3) rfl fun T W => ?_
  refine g_ifN W d10_3 (q := 6) (XT.i0_eq_f hcs0) rfl ?_
  refine g_aloadN W d10_6 (q := 7) rfl rfl rfl ?_
  refine g_getF W (W.rd hx) (i := 1) (v := .int cd) rfl rfl (own_w hw 25 rfl) d10_7 (q := 10) rfl fun T W => ?_
  refine g_goto W d10_10 (q := 14) (by decide) (by decide) ?_
  exact g_retI W rfl (Or.inr (Or.inr (Or.inl rfl))) hcd d10_14 (Nat.le_of_ble_eq_true rfl) (Nat.le_of_ble_eq_true rfl) ⟨rfl, rfl, rfl⟩
theorem d11_0 : decode jdk_42_method_54_code 0 = .ok (.aload_n 0, 1) := by decide +kernel
theorem d11_1 : decode jdk_42_method_54_code 1 = .ok (.getfield 9, 3) := by decide +kernel
theorem d11_4 : decode jdk_42_method_54_code 4 = .ok (.arraylength, 1) := by decide +kernel
theorem d11_5 : decode jdk_42_method_54_code 5 = .ok (.aload_n 0, 1) := by decide +kernel
theorem d11_6 : decode jdk_42_method_54_code 6 = .ok (.invokevirtual 335, 3) := by decide +kernel
theorem d11_9 : decode jdk_42_method_54_code 9 = .ok (.ishr, 1) := by decide +kernel
theorem d11_10 : decode jdk_42_method_54_code 10 = .ok (.ireturn, 1) := by decide +kernel
theorem ef_slen (m : MethodId) (x : Addr) : entryFrame m #[(.ref x)] 1 = mkF m 0 #[.val (.ref x)] [] := by first | (simp [entryFrame, mkF, argsToLocals, Value.category]; done) | rfl
theorem pd_8 : parseMethodDescriptor "()B" = some ⟨[], (some .byte)⟩ := by decide +kernel
set_option maxRecDepth 65536 in
set_option maxHeartbeats 40000000 in
theorem con_slen {kn : Prop} (l : Launch) (Z : State) (a0 : Array Value) (E0 : Env0 Z a0) (O P : List Ent) (x : Addr) (cs : List Int32) (hlen : cs.length ≤ 60000) (hs : IsStr Z P x cs) :
    Con kn l Z EL0 (⟨"java/lang/String", "length", "()I"⟩ : MethodName) jdk_42_method_54_code 1 (some .int) [] ({ frames := 1, cells := 0, slots := 0, locals := 13 } : Room) #[.ref x] O P (fun v O' P' => v = some (.int cs.length.toInt32) ∧ O = O' ∧ P = P') := by
  obtain ⟨hw, hs0, hEL, hS, ⟨cs0, hC0, hcs0⟩, ⟨fv, hFv, hfv⟩, hAD, hHI, hLO⟩ := id E0
  refine con_intro (plainFor_of_name pn_2) hEL (fun m => ef_slen m _) ?_
  intro p e s m below meth c T W hnm
  obtain ⟨b, ⟨hlat, hx, hb'⟩ | ⟨hlat, hx, hb'⟩⟩ := id hs
  · refine g_aloadN W d11_0 (q := 1) rfl rfl rfl ?_
    refine g_getF W (W.rd hx) (i := 0) (v := .ref b) rfl rfl (own_w hw 24 rfl) d11_1 (q := 4) rfl fun T W => ?_
    refine g_len W (W.rd hb') (z := cs.length.toInt32) (by rw [enc_len]) d11_4 (q := 5) rfl ?_
    refine g_aloadN W d11_5 (q := 6) rfl rfl rfl ?_
    refine g_virtual W (con_coder l Z a0 E0 O P x b (0 : Int32) rfl hx) (own_ex (W.rd hx) fun _ h => h.1) (argsL := []) (rest := [(.int cs.length.toInt32)]) rfl rfl pd_8 rfl (own_w hw 54 rfl) (own_w hw 55 rfl) (own_w hw 57 rfl) (own_w hw 56 rfl) (own_w hw 7 rfl) (own_w hw 58 rfl) (by decide) d11_6 (q := 9) rfl rfl (Nat.le_of_ble_eq_true rfl) (Nat.le_of_ble_eq_true rfl) (Nat.le_of_ble_eq_true rfl) (Nat.le_of_ble_eq_true rfl) ?_
    rintro _ _ _ T ⟨rfl, rfl, rfl⟩ W
    refine g_ishr W d11_9 (q := 10) (z := cs.length.toInt32) (own_shr0 _) rfl ?_
    exact g_retI W rfl (Or.inl rfl) rfl d11_10 (Nat.le_of_ble_eq_true rfl) (Nat.le_of_ble_eq_true rfl) ⟨rfl, rfl, rfl⟩
  · refine g_aloadN W d11_0 (q := 1) rfl rfl rfl ?_
    refine g_getF W (W.rd hx) (i := 0) (v := .ref b) rfl rfl (own_w hw 24 rfl) d11_1 (q := 4) rfl fun T W => ?_
    refine g_len W (W.rd hb') (z := (2 * cs.length).toInt32) (by rw [enc16_len]) d11_4 (q := 5) rfl ?_
    refine g_aloadN W d11_5 (q := 6) rfl rfl rfl ?_
    refine g_virtual W (con_coder l Z a0 E0 O P x b (1 : Int32) rfl hx) (own_ex (W.rd hx) fun _ h => h.1) (argsL := []) (rest := [(.int (2 * cs.length).toInt32)]) rfl rfl pd_8 rfl (own_w hw 54 rfl) (own_w hw 55 rfl) (own_w hw 57 rfl) (own_w hw 56 rfl) (own_w hw 7 rfl) (own_w hw 58 rfl) (by decide) d11_6 (q := 9) rfl rfl (Nat.le_of_ble_eq_true rfl) (Nat.le_of_ble_eq_true rfl) (Nat.le_of_ble_eq_true rfl) (Nat.le_of_ble_eq_true rfl) ?_
    rintro _ _ _ T ⟨rfl, rfl, rfl⟩ W
    refine g_ishr W d11_9 (q := 10) (z := cs.length.toInt32) (own_shr1 (by omega)) rfl ?_
    exact g_retI W rfl (Or.inl rfl) rfl d11_10 (Nat.le_of_ble_eq_true rfl) (Nat.le_of_ble_eq_true rfl) ⟨rfl, rfl, rfl⟩
theorem d12_0 : decode jdk_41_method_11_code 0 = .ok (.iload_n 0, 1) := by decide +kernel
theorem d12_1 : decode jdk_41_method_11_code 1 = .ok (.ifCond .lt 8, 3) := by decide +kernel
theorem d12_4 : decode jdk_41_method_11_code 4 = .ok (.iload_n 0, 1) := by decide +kernel
theorem d12_5 : decode jdk_41_method_11_code 5 = .ok (.iload_n 1, 1) := by decide +kernel
theorem d12_6 : decode jdk_41_method_11_code 6 = .ok (.if_icmp .lt 10, 3) := by decide +kernel
theorem d12_9 : decode jdk_41_method_11_code 9 = .ok (.aload_n 2, 1) := by decide +kernel
theorem d12_10 : decode jdk_41_method_11_code 10 = .ok (.iload_n 0, 1) := by decide +kernel
theorem d12_11 : decode jdk_41_method_11_code 11 = .ok (.iload_n 1, 1) := by decide +kernel
theorem d12_15 : decode jdk_41_method_11_code 15 = .ok (.athrow, 1) := by decide +kernel
theorem d12_16 : decode jdk_41_method_11_code 16 = .ok (.iload_n 0, 1) := by decide +kernel
theorem d12_17 : decode jdk_41_method_11_code 17 = .ok (.ireturn, 1) := by decide +kernel
theorem ef_pchk (m : MethodId) (i j : Int32) (fv : Value) (hv : fv.isRef = true) : entryFrame m #[.int i, .int j, fv] 3 = mkF m 0 #[.val (.int i), .val (.int j), .val fv] [] := by rcases ref_cases hv with rfl | ⟨r, rfl⟩ <;> first | (simp [entryFrame, mkF, argsToLocals, Value.category]; done) | rfl
theorem pn_3 : plainName "jdk/internal/util/Preconditions" = true := by first | (simp [plainName, overriddenIn]; done) | decide +kernel
set_option maxRecDepth 65536 in
set_option maxHeartbeats 40000000 in
theorem con_pchk {kn : Prop} (l : Launch) (Z : State) (a0 : Array Value) (E0 : Env0 Z a0) (O P : List Ent) (i j : Int32) (fv : Value) (hv : fv.isRef = true) (h1 : ¬ i < 0) (h2 : i < j) :
    Con kn l Z EL0 (⟨"jdk/internal/util/Preconditions", "checkIndex", "(IILjava/util/function/BiFunction;)I"⟩ : MethodName) jdk_41_method_11_code 3 (some .int) [] ({ frames := 0, cells := 0, slots := 0, locals := 0 } : Room) #[.int i, .int j, fv] O P (fun v O' P' => v = some (.int i) ∧ O = O' ∧ P = P') := by
  obtain ⟨hw, hs0, hEL, hS, ⟨cs0, hC0, hcs0⟩, hmore⟩ := id E0
  refine con_intro (plainFor_of_name pn_3) hEL (fun m => ef_pchk m _ _ _ hv) ?_
  intro p e s m below meth c T W hnm
  refine g_iloadN W d12_0 (q := 1) rfl rfl ?_
  refine g_ifN W d12_1 (q := 4) (XT.i0_lt_f h1) rfl ?_
  refine g_iloadN W d12_4 (q := 5) rfl rfl ?_
  refine g_iloadN W d12_5 (q := 6) rfl rfl ?_
  refine g_icY W d12_6 (q := 16) (XT.ii_lt_t h2) (by decide) (by decide) ?_
  refine g_iloadN W d12_16 (q := 17) rfl rfl ?_
  exact g_retI W rfl (Or.inl rfl) rfl d12_17 (Nat.le_of_ble_eq_true rfl) (Nat.le_of_ble_eq_true rfl) ⟨rfl, rfl, rfl⟩
theorem d13_0 : decode jdk_42_method_155_code 0 = .ok (.iload_n 0, 1) := by decide +kernel
theorem d13_1 : decode jdk_42_method_155_code 1 = .ok (.iload_n 1, 1) := by decide +kernel
theorem d13_2 : decode jdk_42_method_155_code 2 = .ok (.getstatic 1053, 3) := by decide +kernel
theorem d13_5 : decode jdk_42_method_155_code 5 = .ok (.invokestatic 1059, 3) := by decide +kernel
theorem d13_8 : decode jdk_42_method_155_code 8 = .ok (.pop, 1) := by decide +kernel
theorem d13_9 : decode jdk_42_method_155_code 9 = .ok (.return_, 1) := by decide +kernel
theorem ef_schk (m : MethodId) (i : Int32) (j : Int32) : entryFrame m #[(.int i), (.int j)] 2 = mkF m 0 #[.val (.int i), .val (.int j)] [] := by first | (simp [entryFrame, mkF, argsToLocals, Value.category]; done) | rfl
theorem pd_9 : parseMethodDescriptor "(IILjava/util/function/BiFunction;)I" = some ⟨[.int, .int, (.object "java/util/function/BiFunction")], (some .int)⟩ := by decide +kernel
set_option maxRecDepth 65536 in
set_option maxHeartbeats 40000000 in
theorem con_schk {kn : Prop} (l : Launch) (Z : State) (a0 : Array Value) (E0 : Env0 Z a0) (O P : List Ent) (i j : Int32) (h1 : ¬ i < 0) (h2 : i < j) :
    Con kn l Z EL0 (⟨"java/lang/String", "checkIndex", "(II)V"⟩ : MethodName) jdk_42_method_155_code 2 none [] ({ frames := 1, cells := 0, slots := 0, locals := 14 } : Room) #[.int i, .int j] O P (fun v O' P' => v = none ∧ O = O' ∧ P = P') := by
  obtain ⟨hw, hs0, hEL, hS, ⟨cs0, hC0, hcs0⟩, hmore⟩ := id E0
  refine con_intro (plainFor_of_name pn_2) hEL (fun m => ef_schk m _ _) ?_
  intro p e s m below meth c T W hnm
  obtain ⟨⟨fv, hF, hfv⟩, -⟩ := hmore
  refine g_iloadN W d13_0 (q := 1) rfl rfl ?_
  refine g_iloadN W d13_1 (q := 2) rfl rfl ?_
  refine g_getS W hF (own_w hw 98 rfl) d13_2 (q := 5) rfl fun T W => ?_
  refine g_static W (con_pchk l Z a0 E0 O P i j fv hfv h1 h2) (argsL := [(.int i), (.int j), (fv)]) (rest := []) rfl rfl pd_9 rfl (own_w hw 100 rfl) (own_w hw 101 rfl) (own_w hw 99 rfl) (own_w hw 102 rfl) (by decide) d13_5 (q := 8) rfl rfl (Nat.le_of_ble_eq_true rfl) (Nat.le_of_ble_eq_true rfl) (Nat.le_of_ble_eq_true rfl) (Nat.le_of_ble_eq_true rfl) ?_
  rintro _ _ _ T ⟨rfl, rfl, rfl⟩ W
  refine g_pop W d13_8 (q := 9) rfl rfl ?_
  exact g_retV W rfl d13_9 (Nat.le_of_ble_eq_true rfl) (Nat.le_of_ble_eq_true rfl) ⟨rfl, rfl, rfl⟩
theorem d14_0 : decode jdk_43_method_2_code 0 = .ok (.iload_n 1, 1) := by decide +kernel
theorem d14_1 : decode jdk_43_method_2_code 1 = .ok (.aload_n 0, 1) := by decide +kernel
theorem d14_2 : decode jdk_43_method_2_code 2 = .ok (.arraylength, 1) := by decide +kernel
theorem d14_3 : decode jdk_43_method_2_code 3 = .ok (.invokestatic 9, 3) := by decide +kernel
theorem d14_6 : decode jdk_43_method_2_code 6 = .ok (.aload_n 0, 1) := by decide +kernel
theorem d14_7 : decode jdk_43_method_2_code 7 = .ok (.iload_n 1, 1) := by decide +kernel
theorem d14_8 : decode jdk_43_method_2_code 8 = .ok (.baload, 1) := by decide +kernel
theorem d14_9 : decode jdk_43_method_2_code 9 = .ok (.sipush 255, 3) := by decide +kernel
theorem d14_12 : decode jdk_43_method_2_code 12 = .ok (.iand, 1) := by decide +kernel
theorem d14_13 : decode jdk_43_method_2_code 13 = .ok (.i2c, 1) := by decide +kernel
theorem d14_14 : decode jdk_43_method_2_code 14 = .ok (.ireturn, 1) := by decide +kernel
theorem ef_lch (m : MethodId) (b : Addr) (i : Int32) : entryFrame m #[(.ref b), (.int i)] 2 = mkF m 0 #[.val (.ref b), .val (.int i)] [] := by first | (simp [entryFrame, mkF, argsToLocals, Value.category]; done) | rfl
theorem pd_10 : parseMethodDescriptor "(II)V" = some ⟨[.int, .int], none⟩ := by decide +kernel
theorem pn_4 : plainName "java/lang/StringLatin1" = true := by first | (simp [plainName, overriddenIn]; done) | decide +kernel
set_option maxRecDepth 65536 in
set_option maxHeartbeats 40000000 in
theorem con_lch {kn : Prop} (l : Launch) (Z : State) (a0 : Array Value) (E0 : Env0 Z a0) (O P : List Ent) (b : Addr) (cs : List Int32) (i : Nat) (ch : Int32) (hlen : cs.length < 2 ^ 31) (hi : cs[i]? = some ch) (hch : 0 ≤ ch.toInt ∧ ch.toInt ≤ 255) (hb : (b, ArrC Z .byte (enc cs)) ∈ P) :
    Con kn l Z EL0 (⟨"java/lang/StringLatin1", "charAt", "([BI)C"⟩ : MethodName) jdk_43_method_2_code 2 (some .char) [] ({ frames := 2, cells := 0, slots := 0, locals := 27 } : Room) #[.ref b, .int i.toInt32] O P (fun v O' P' => v = some (.int ch) ∧ O = O' ∧ P = P') := by
  obtain ⟨hw, hs0, hEL, hS, ⟨cs0, hC0, hcs0⟩, hmore⟩ := id E0
  refine con_intro (plainFor_of_name pn_4) hEL (fun m => ef_lch m _ _) ?_
  intro p e s m below meth c T W hnm
  have hil : i < cs.length := (List.getElem?_eq_some_iff.mp hi).1
  refine g_iloadN W d14_0 (q := 1) rfl rfl ?_
  refine g_aloadN W d14_1 (q := 2) rfl rfl rfl ?_
  refine g_len W (W.rd hb) (z := cs.length.toInt32) (by rw [enc_len]) d14_2 (q := 3) rfl ?_
  refine g_static W (con_schk l Z a0 E0 O P _ _ (own_nn (by omega)) ((own_lt (by omega) hlen).mpr hil)) (argsL := [(.int i.toInt32), (.int cs.length.toInt32)]) (rest := []) rfl rfl pd_10 rfl (own_w hw 95 rfl) (own_w hw 96 rfl) (own_w hw 7 rfl) (own_w hw 97 rfl) (by decide) d14_3 (q := 6) rfl rfl (Nat.le_of_ble_eq_true rfl) (Nat.le_of_ble_eq_true rfl) (Nat.le_of_ble_eq_true rfl) (Nat.le_of_ble_eq_true rfl) ?_
  rintro _ _ _ T ⟨rfl, rfl, rfl⟩ W
  refine g_aloadN W d14_6 (q := 7) rfl rfl rfl ?_
  refine g_iloadN W d14_7 (q := 8) rfl rfl ?_
  refine g_baload W (W.rd hb) (own_nn (by omega)) (i := i) (own_clamp (by omega)) (v := .int ch.toInt8.toInt32) (by rw [enc, List.getElem?_map, hi]; rfl) d14_8 (q := 9) rfl ?_
  refine g_sipush W (v := (255 : Int32)) d14_9 (q := 12) rfl rfl ?_
  refine g_iand W d14_12 (q := 13) (z := ch) (own_b2c hch) rfl ?_
  refine g_i2c W d14_13 (q := 14) (z := ch) (own_chr (by omega)) rfl ?_
  exact g_retI W rfl (Or.inr (Or.inr (Or.inr (Or.inl rfl)))) (own_narcR (by omega)) d14_14 (Nat.le_of_ble_eq_true rfl) (Nat.le_of_ble_eq_true rfl) ⟨rfl, rfl, rfl⟩
theorem d15_0 : decode jdk_42_method_154_code 0 = .ok (.getstatic 38, 3) := by decide +kernel
theorem d15_3 : decode jdk_42_method_154_code 3 = .ok (.ifCond .eq 14, 3) := by decide +kernel
theorem d15_6 : decode jdk_42_method_154_code 6 = .ok (.aload_n 0, 1) := by decide +kernel
theorem d15_7 : decode jdk_42_method_154_code 7 = .ok (.getfield 15, 3) := by decide +kernel
theorem d15_10 : decode jdk_42_method_154_code 10 = .ok (.ifCond .ne 7, 3) := by decide +kernel
theorem d15_13 : decode jdk_42_method_154_code 13 = .ok (.iconst 1, 1) := by decide +kernel
theorem d15_14 : decode jdk_42_method_154_code 14 = .ok (.goto 4, 3) := by decide +kernel
theorem d15_17 : decode jdk_42_method_154_code 17 = .ok (.iconst 0, 1) := by decide +kernel
theorem d15_18 : decode jdk_42_method_154_code 18 = .ok (.ireturn, 1) := by decide +kernel
theorem ef_isL (m : MethodId) (x : Addr) : entryFrame m #[(.ref x)] 1 = mkF m 0 #[.val (.ref x)] [] := by first | (simp [entryFrame, mkF, argsToLocals, Value.category]; done) | rfl
set_option maxRecDepth 65536 in
set_option maxHeartbeats 40000000 in
theorem con_isL0 {kn : Prop} (l : Launch) (Z : State) (a0 : Array Value) (E0 : Env0 Z a0) (O P : List Ent) (x b : Addr) (hx : (x, ObjC Z "java/lang/String" shStr [.ref b, .int (0 : Int32)]) ∈ P) :
    Con kn l Z EL0 (⟨"java/lang/String", "isLatin1", "()Z"⟩ : MethodName) jdk_42_method_154_code 1 (some .boolean) [] ({ frames := 0, cells := 0, slots := 0, locals := 0 } : Room) #[.ref x] O P (fun v O' P' => v = some (.int (1 : Int32)) ∧ O = O' ∧ P = P') := by
  obtain ⟨hw, hs0, hEL, hS, ⟨cs0, hC0, hcs0⟩, ⟨fv, hFv, hfv⟩, hAD, hHI, hLO⟩ := id E0
  refine con_intro (plainFor_of_name pn_2) hEL (fun m => ef_isL m _) ?_
  intro p e s m below meth c T W hnm
  refine g_getS W hC0 (own_w hw 59 rfl) d15_0 (q := 3) rfl fun T W => ?_
  refine g_ifN W d15_3 (q := 6) (XT.i0_eq_f hcs0) rfl ?_
  refine g_aloadN W d15_6 (q := 7) rfl rfl rfl ?_
  refine g_getF W (W.rd hx) (i := 1) (v := .int (0 : Int32)) rfl rfl (own_w hw 25 rfl) d15_7 (q := 10) rfl fun T W => ?_
  refine g_ifN W d15_10 (q := 13) (XT.i0_ne_f (by decide)) rfl ?_
  refine g_iconst W (v := (1 : Int32)) d15_13 (q := 14) rfl rfl ?_
  refine g_goto W d15_14 (q := 18) (by decide) (by decide) ?_
  exact g_retI W rfl (Or.inr (Or.inl rfl)) rfl d15_18 (Nat.le_of_ble_eq_true rfl) (Nat.le_of_ble_eq_true rfl) ⟨rfl, rfl, rfl⟩
set_option maxRecDepth 65536 in
set_option maxHeartbeats 40000000 in
theorem con_isL1 {kn : Prop} (l : Launch) (Z : State) (a0 : Array Value) (E0 : Env0 Z a0) (O P : List Ent) (x b : Addr) (hx : (x, ObjC Z "java/lang/String" shStr [.ref b, .int (1 : Int32)]) ∈ P) :
    Con kn l Z EL0 (⟨"java/lang/String", "isLatin1", "()Z"⟩ : MethodName) jdk_42_method_154_code 1 (some .boolean) [] ({ frames := 0, cells := 0, slots := 0, locals := 0 } : Room) #[.ref x] O P (fun v O' P' => v = some (.int (0 : Int32)) ∧ O = O' ∧ P = P') := by
  obtain ⟨hw, hs0, hEL, hS, ⟨cs0, hC0, hcs0⟩, ⟨fv, hFv, hfv⟩, hAD, hHI, hLO⟩ := id E0
  refine con_intro (plainFor_of_name pn_2) hEL (fun m => ef_isL m _) ?_
  intro p e s m below meth c T W hnm
  refine g_getS W hC0 (own_w hw 59 rfl) d15_0 (q := 3) rfl fun T W => ?_
  refine g_ifN W d15_3 (q := 6) (XT.i0_eq_f hcs0) rfl ?_
  refine g_aloadN W d15_6 (q := 7) rfl rfl rfl ?_
  refine g_getF W (W.rd hx) (i := 1) (v := .int (1 : Int32)) rfl rfl (own_w hw 25 rfl) d15_7 (q := 10) rfl fun T W => ?_
  refine g_ifY W d15_10 (q := 17) (XT.i0_ne_t (by decide)) (by decide) (by decide) ?_
  refine g_iconst W (v := (0 : Int32)) d15_17 (q := 18) rfl rfl ?_
  exact g_retI W rfl (Or.inr (Or.inl rfl)) rfl d15_18 (Nat.le_of_ble_eq_true rfl) (Nat.le_of_ble_eq_true rfl) ⟨rfl, rfl, rfl⟩
theorem d16_0 : decode jdk_52_method_6_code 0 = .ok (.aload_n 0, 1) := by decide +kernel
theorem d16_1 : decode jdk_52_method_6_code 1 = .ok (.arraylength, 1) := by decide +kernel
theorem d16_2 : decode jdk_52_method_6_code 2 = .ok (.iconst 1, 1) := by decide +kernel
theorem d16_3 : decode jdk_52_method_6_code 3 = .ok (.ishr, 1) := by decide +kernel
theorem d16_4 : decode jdk_52_method_6_code 4 = .ok (.ireturn, 1) := by decide +kernel
theorem ef_ulen (m : MethodId) (b : Addr) : entryFrame m #[(.ref b)] 1 = mkF m 0 #[.val (.ref b)] [] := by first | (simp [entryFrame, mkF, argsToLocals, Value.category]; done) | rfl
set_option maxRecDepth 65536 in
set_option maxHeartbeats 40000000 in
theorem con_ulen {kn : Prop} (l : Launch) (Z : State) (a0 : Array Value) (E0 : Env0 Z a0) (O P : List Ent) (b : Addr) (cs : List Int32) (hlen : cs.length ≤ 60000) (hb : (b, ArrC Z .byte (enc16 cs)) ∈ P) :
    Con kn l Z EL0 (⟨"java/lang/StringUTF16", "length", "([B)I"⟩ : MethodName) jdk_52_method_6_code 1 (some .int) [] ({ frames := 0, cells := 0, slots := 0, locals := 0 } : Room) #[.ref b] O P (fun v O' P' => v = some (.int cs.length.toInt32) ∧ O = O' ∧ P = P') := by
  obtain ⟨hw, hs0, hEL, hS, ⟨cs0, hC0, hcs0⟩, ⟨fv, hFv, hfv⟩, hAD, hHI, hLO⟩ := id E0
  refine con_intro (plainFor_of_name pn_0) hEL (fun m => ef_ulen m _) ?_
  intro p e s m below meth c T W hnm
  refine g_aloadN W d16_0 (q := 1) rfl rfl rfl ?_
  refine g_len W (W.rd hb) (z := (2 * cs.length).toInt32) (by rw [enc16_len]) d16_1 (q := 2) rfl ?_
  refine g_iconst W (v := (1 : Int32)) d16_2 (q := 3) rfl rfl ?_
  refine g_ishr W d16_3 (q := 4) (z := cs.length.toInt32) (own_shr1 (by omega)) rfl ?_
  exact g_retI W rfl (Or.inl rfl) rfl d16_4 (Nat.le_of_ble_eq_true rfl) (Nat.le_of_ble_eq_true rfl) ⟨rfl, rfl, rfl⟩
theorem d17_0 : decode jdk_52_method_91_code 0 = .ok (.iload_n 0, 1) := by decide +kernel
theorem d17_1 : decode jdk_52_method_91_code 1 = .ok (.aload_n 1, 1) := by decide +kernel
theorem d17_2 : decode jdk_52_method_91_code 2 = .ok (.invokestatic 48, 3) := by decide +kernel
theorem d17_5 : decode jdk_52_method_91_code 5 = .ok (.invokestatic 414, 3) := by decide +kernel
theorem d17_8 : decode jdk_52_method_91_code 8 = .ok (.return_, 1) := by decide +kernel
theorem ef_uchk (m : MethodId) (i : Int32) (b : Addr) : entryFrame m #[(.int i), (.ref b)] 2 = mkF m 0 #[.val (.int i), .val (.ref b)] [] := by first | (simp [entryFrame, mkF, argsToLocals, Value.category]; done) | rfl
theorem pd_11 : parseMethodDescriptor "([B)I" = some ⟨[(.array .byte)], (some .int)⟩ := by decide +kernel
set_option maxRecDepth 65536 in
set_option maxHeartbeats 40000000 in
theorem con_uchk {kn : Prop} (l : Launch) (Z : State) (a0 : Array Value) (E0 : Env0 Z a0) (O P : List Ent) (b : Addr) (cs : List Int32) (i : Nat) (hlen : cs.length ≤ 60000) (hb : (b, ArrC Z .byte (enc16 cs)) ∈ P) (hil : i < cs.length) :
    Con kn l Z EL0 (⟨"java/lang/StringUTF16", "checkIndex", "(I[B)V"⟩ : MethodName) jdk_52_method_91_code 2 none [] ({ frames := 2, cells := 0, slots := 0, locals := 27 } : Room) #[.int i.toInt32, .ref b] O P (fun v O' P' => v = none ∧ O = O' ∧ P = P') := by
  obtain ⟨hw, hs0, hEL, hS, ⟨cs0, hC0, hcs0⟩, ⟨fv, hFv, hfv⟩, hAD, hHI, hLO⟩ := id E0
  refine con_intro (plainFor_of_name pn_0) hEL (fun m => ef_uchk m _ _) ?_
  intro p e s m below meth c T W hnm
  refine g_iloadN W d17_0 (q := 1) rfl rfl ?_
  refine g_aloadN W d17_1 (q := 2) rfl rfl rfl ?_
  refine g_static W (con_ulen l Z a0 E0 O P b cs hlen hb) (argsL := [(.ref b)]) (rest := [(.int i.toInt32)]) rfl rfl pd_11 rfl (own_w hw 128 rfl) (own_w hw 129 rfl) (own_w hw 73 rfl) (own_w hw 130 rfl) (by decide) d17_2 (q := 5) rfl rfl (Nat.le_of_ble_eq_true rfl) (Nat.le_of_ble_eq_true rfl) (Nat.le_of_ble_eq_true rfl) (Nat.le_of_ble_eq_true rfl) ?_
  rintro _ _ _ T ⟨rfl, rfl, rfl⟩ W
  refine g_static W (con_schk l Z a0 E0 O P _ _ (own_nn (by omega)) ((own_lt (by omega) (by omega)).mpr hil)) (argsL := [(.int i.toInt32), (.int cs.length.toInt32)]) (rest := []) rfl rfl pd_10 rfl (own_w hw 131 rfl) (own_w hw 96 rfl) (own_w hw 7 rfl) (own_w hw 97 rfl) (by decide) d17_5 (q := 8) rfl rfl (Nat.le_of_ble_eq_true rfl) (Nat.le_of_ble_eq_true rfl) (Nat.le_of_ble_eq_true rfl) (Nat.le_of_ble_eq_true rfl) ?_
  rintro _ _ _ T ⟨rfl, rfl, rfl⟩ W
  exact g_retV W rfl d17_8 (Nat.le_of_ble_eq_true rfl) (Nat.le_of_ble_eq_true rfl) ⟨rfl, rfl, rfl⟩
theorem d18_0 : decode jdk_52_method_83_code 0 = .ok (.iload_n 1, 1) := by decide +kernel
theorem d18_1 : decode jdk_52_method_83_code 1 = .ok (.aload_n 0, 1) := by decide +kernel
theorem d18_2 : decode jdk_52_method_83_code 2 = .ok (.invokestatic 67, 3) := by decide +kernel
theorem d18_5 : decode jdk_52_method_83_code 5 = .ok (.aload_n 0, 1) := by decide +kernel
theorem d18_6 : decode jdk_52_method_83_code 6 = .ok (.iload_n 1, 1) := by decide +kernel
theorem d18_7 : decode jdk_52_method_83_code 7 = .ok (.invokestatic 71, 3) := by decide +kernel
theorem d18_10 : decode jdk_52_method_83_code 10 = .ok (.ireturn, 1) := by decide +kernel
theorem ef_uch (m : MethodId) (b : Addr) (i : Int32) : entryFrame m #[(.ref b), (.int i)] 2 = mkF m 0 #[.val (.ref b), .val (.int i)] [] := by first | (simp [entryFrame, mkF, argsToLocals, Value.category]; done) | rfl
theorem pd_12 : parseMethodDescriptor "(I[B)V" = some ⟨[.int, (.array .byte)], none⟩ := by decide +kernel
set_option maxRecDepth 65536 in
set_option maxHeartbeats 40000000 in
theorem con_uch {kn : Prop} (l : Launch) (Z : State) (a0 : Array Value) (E0 : Env0 Z a0) (O P : List Ent) (b : Addr) (cs : List Int32) (i : Nat) (ch : Int32) (hlen : cs.length ≤ 60000) (hi : cs[i]? = some ch) (hch : 0 ≤ ch.toInt ∧ ch.toInt < 65536) (hb : (b, ArrC Z .byte (enc16 cs)) ∈ P) :
    Con kn l Z EL0 (⟨"java/lang/StringUTF16", "charAt", "([BI)C"⟩ : MethodName) jdk_52_method_83_code 2 (some .char) [] ({ frames := 3, cells := 0, slots := 0, locals := 40 } : Room) #[.ref b, .int i.toInt32] O P (fun v O' P' => v = some (.int ch) ∧ O = O' ∧ P = P') := by
  obtain ⟨hw, hs0, hEL, hS, ⟨cs0, hC0, hcs0⟩, ⟨fv, hFv, hfv⟩, hAD, hHI, hLO⟩ := id E0
  refine con_intro (plainFor_of_name pn_0) hEL (fun m => ef_uch m _ _) ?_
  intro p e s m below meth c T W hnm
  have hil : i < cs.length := (List.getElem?_eq_some_iff.mp hi).1
  refine g_iloadN W d18_0 (q := 1) rfl rfl ?_
  refine g_aloadN W d18_1 (q := 2) rfl rfl rfl ?_
  refine g_static W (con_uchk l Z a0 E0 O P b cs i hlen hb hil) (argsL := [(.int i.toInt32), (.ref b)]) (rest := []) rfl rfl pd_12 rfl (own_w hw 125 rfl) (own_w hw 126 rfl) (own_w hw 73 rfl) (own_w hw 127 rfl) (by decide) d18_2 (q := 5) rfl rfl (Nat.le_of_ble_eq_true rfl) (Nat.le_of_ble_eq_true rfl) (Nat.le_of_ble_eq_true rfl) (Nat.le_of_ble_eq_true rfl) ?_
  rintro _ _ _ T ⟨rfl, rfl, rfl⟩ W
  refine g_aloadN W d18_5 (q := 6) rfl rfl rfl ?_
  refine g_iloadN W d18_6 (q := 7) rfl rfl ?_
  refine g_static W (con_getR l Z a0 E0 O P b cs i ch hlen hi hch hb) (argsL := [(.ref b), (.int i.toInt32)]) (rest := []) rfl rfl pd_5 rfl (own_w hw 119 rfl) (own_w hw 120 rfl) (own_w hw 73 rfl) (own_w hw 121 rfl) (by decide) d18_7 (q := 10) rfl rfl (Nat.le_of_ble_eq_true rfl) (Nat.le_of_ble_eq_true rfl) (Nat.le_of_ble_eq_true rfl) (Nat.le_of_ble_eq_true rfl) ?_
  rintro _ _ _ T ⟨rfl, rfl, rfl⟩ W
  exact g_retI W rfl (Or.inr (Or.inr (Or.inr (Or.inl rfl)))) (own_narcR hch) d18_10 (Nat.le_of_ble_eq_true rfl) (Nat.le_of_ble_eq_true rfl) ⟨rfl, rfl, rfl⟩
theorem d19_0 : decode jdk_42_method_56_code 0 = .ok (.aload_n 0, 1) := by decide +kernel
theorem d19_1 : decode jdk_42_method_56_code 1 = .ok (.invokevirtual 492, 3) := by decide +kernel
theorem d19_4 : decode jdk_42_method_56_code 4 = .ok (.ifCond .eq 12, 3) := by decide +kernel
theorem d19_7 : decode jdk_42_method_56_code 7 = .ok (.aload_n 0, 1) := by decide +kernel
theorem d19_8 : decode jdk_42_method_56_code 8 = .ok (.getfield 9, 3) := by decide +kernel
theorem d19_11 : decode jdk_42_method_56_code 11 = .ok (.iload_n 1, 1) := by decide +kernel
theorem d19_12 : decode jdk_42_method_56_code 12 = .ok (.invokestatic 495, 3) := by decide +kernel
theorem d19_15 : decode jdk_42_method_56_code 15 = .ok (.ireturn, 1) := by decide +kernel
theorem d19_16 : decode jdk_42_method_56_code 16 = .ok (.aload_n 0, 1) := by decide +kernel
theorem d19_17 : decode jdk_42_method_56_code 17 = .ok (.getfield 9, 3) := by decide +kernel
theorem d19_20 : decode jdk_42_method_56_code 20 = .ok (.iload_n 1, 1) := by decide +kernel
theorem d19_21 : decode jdk_42_method_56_code 21 = .ok (.invokestatic 498, 3) := by decide +kernel
theorem d19_24 : decode jdk_42_method_56_code 24 = .ok (.ireturn, 1) := by decide +kernel
theorem ef_cha (m : MethodId) (x : Addr) (i : Int32) : entryFrame m #[(.ref x), (.int i)] 2 = mkF m 0 #[.val (.ref x), .val (.int i)] [] := by first | (simp [entryFrame, mkF, argsToLocals, Value.category]; done) | rfl
theorem pd_13 : parseMethodDescriptor "()Z" = some ⟨[], (some .boolean)⟩ := by decide +kernel
set_option maxRecDepth 65536 in
set_option maxHeartbeats 40000000 in
theorem con_cha {kn : Prop} (l : Launch) (Z : State) (a0 : Array Value) (E0 : Env0 Z a0) (O P : List Ent) (x : Addr) (cs : List Int32) (i : Nat) (ch : Int32) (hlen : cs.length ≤ 60000) (hi : cs[i]? = some ch) (hch : 0 ≤ ch.toInt ∧ ch.toInt < 65536) (hs : IsStr Z P x cs) :
    Con kn l Z EL0 (⟨"java/lang/String", "charAt", "(I)C"⟩ : MethodName) jdk_42_method_56_code 2 (some .char) [] ({ frames := 4, cells := 0, slots := 0, locals := 53 } : Room) #[.ref x, .int i.toInt32] O P (fun v O' P' => v = some (.int ch) ∧ O = O' ∧ P = P') := by
  obtain ⟨hw, hs0, hEL, hS, ⟨cs0, hC0, hcs0⟩, ⟨fv, hFv, hfv⟩, hAD, hHI, hLO⟩ := id E0
  refine con_intro (plainFor_of_name pn_2) hEL (fun m => ef_cha m _ _) ?_
  intro p e s m below meth c T W hnm
  obtain ⟨b, ⟨hlat, hx, hb'⟩ | ⟨hlat, hx, hb'⟩⟩ := id hs
  · refine g_aloadN W d19_0 (q := 1) rfl rfl rfl ?_
    refine g_virtual W (con_isL0 l Z a0 E0 O P x b hx) (own_ex (W.rd hx) fun _ h => h.1) (argsL := []) (rest := []) rfl rfl pd_13 rfl (own_w hw 86 rfl) (own_w hw 87 rfl) (own_w hw 89 rfl) (own_w hw 88 rfl) (own_w hw 7 rfl) (own_w hw 90 rfl) (by decide) d19_1 (q := 4) rfl rfl (Nat.le_of_ble_eq_true rfl) (Nat.le_of_ble_eq_true rfl) (Nat.le_of_ble_eq_true rfl) (Nat.le_of_ble_eq_true rfl) ?_
    rintro _ _ _ T ⟨rfl, rfl, rfl⟩ W
    refine g_ifN W d19_4 (q := 7) (XT.i0_eq_f (by decide)) rfl ?_
    refine g_aloadN W d19_7 (q := 8) rfl rfl rfl ?_
    refine g_getF W (W.rd hx) (i := 0) (v := .ref b) rfl rfl (own_w hw 24 rfl) d19_8 (q := 11) rfl fun T W => ?_
    refine g_iloadN W d19_11 (q := 12) rfl rfl ?_
    have h255 : ch.toInt ≤ 255 := own_lat255 (hlat i ch hi)
    refine g_static W (con_lch l Z a0 E0 O P b cs i ch (by omega) hi ⟨hch.1, h255⟩ hb') (argsL := [(.ref b), (.int i.toInt32)]) (rest := []) rfl rfl pd_5 rfl (own_w hw 91 rfl) (own_w hw 92 rfl) (own_w hw 93 rfl) (own_w hw 94 rfl) (by decide) d19_12 (q := 15) rfl rfl (Nat.le_of_ble_eq_true rfl) (Nat.le_of_ble_eq_true rfl) (Nat.le_of_ble_eq_true rfl) (Nat.le_of_ble_eq_true rfl) ?_
    rintro _ _ _ T ⟨rfl, rfl, rfl⟩ W
    exact g_retI W rfl (Or.inr (Or.inr (Or.inr (Or.inl rfl)))) (own_narcR hch) d19_15 (Nat.le_of_ble_eq_true rfl) (Nat.le_of_ble_eq_true rfl) ⟨rfl, rfl, rfl⟩
  · refine g_aloadN W d19_0 (q := 1) rfl rfl rfl ?_
    refine g_virtual W (con_isL1 l Z a0 E0 O P x b hx) (own_ex (W.rd hx) fun _ h => h.1) (argsL := []) (rest := []) rfl rfl pd_13 rfl (own_w hw 86 rfl) (own_w hw 87 rfl) (own_w hw 89 rfl) (own_w hw 88 rfl) (own_w hw 7 rfl) (own_w hw 90 rfl) (by decide) d19_1 (q := 4) rfl rfl (Nat.le_of_ble_eq_true rfl) (Nat.le_of_ble_eq_true rfl) (Nat.le_of_ble_eq_true rfl) (Nat.le_of_ble_eq_true rfl) ?_
    rintro _ _ _ T ⟨rfl, rfl, rfl⟩ W
    refine g_ifY W d19_4 (q := 16) (XT.i0_eq_t (by decide)) (by decide) (by decide) ?_
    refine g_aloadN W d19_16 (q := 17) rfl rfl rfl ?_
    refine g_getF W (W.rd hx) (i := 0) (v := .ref b) rfl rfl (own_w hw 24 rfl) d19_17 (q := 20) rfl fun T W => ?_
    refine g_iloadN W d19_20 (q := 21) rfl rfl ?_
    refine g_static W (con_uch l Z a0 E0 O P b cs i ch hlen hi hch hb') (argsL := [(.ref b), (.int i.toInt32)]) (rest := []) rfl rfl pd_5 rfl (own_w hw 122 rfl) (own_w hw 123 rfl) (own_w hw 73 rfl) (own_w hw 124 rfl) (by decide) d19_21 (q := 24) rfl rfl (Nat.le_of_ble_eq_true rfl) (Nat.le_of_ble_eq_true rfl) (Nat.le_of_ble_eq_true rfl) (Nat.le_of_ble_eq_true rfl) ?_
    rintro _ _ _ T ⟨rfl, rfl, rfl⟩ W
    exact g_retI W rfl (Or.inr (Or.inr (Or.inr (Or.inl rfl)))) (own_narcR hch) d19_24 (Nat.le_of_ble_eq_true rfl) (Nat.le_of_ble_eq_true rfl) ⟨rfl, rfl, rfl⟩
/-- one blank is skipped -/
def st (cs : List Int32) (i : Nat) : Nat := match cs[i]? with | some c => if c = 32 ∨ c = 9 then i + 1 else i | none => i
def it (cs : List Int32) : Nat → Nat → Nat
  | 0, i => i
  | n + 1, i => it cs n (st cs i)
theorem st_none {cs : List Int32} {i : Nat} (h : cs[i]? = none) : st cs i = i := by simp [st, h]
theorem st_some {cs : List Int32} {i : Nat} {c : Int32} (h : cs[i]? = some c) : st cs i = if c = 32 ∨ c = 9 then i + 1 else i := by simp [st, h]
theorem st_le {cs : List Int32} {i : Nat} (h : i ≤ cs.length) : st cs i ≤ cs.length := by
  cases e : cs[i]? with
  | none => rw [st_none e]; exact h
  | some c =>
    have := (List.getElem?_eq_some_iff.mp e).1
    rw [st_some e]; split <;> omega
theorem it_le {cs : List Int32} : ∀ (n i : Nat), i ≤ cs.length → it cs n i ≤ cs.length
  | 0, i, h => h
  | n + 1, i, h => it_le n _ (st_le h)
theorem it_fix {cs : List Int32} {i : Nat} (h : st cs i = i) : ∀ n, it cs n i = i
  | 0 => rfl
  | n + 1 => by show it cs n (st cs i) = i; rw [h]; exact it_fix h n
theorem it_eq {cs : List Int32} : ∀ (n i : Nat), cs.length - i ≤ n → it cs n i = it cs (cs.length - i) i
  | 0, i, h => by rw [show cs.length - i = 0 by omega]
  | n + 1, i, h => by
    by_cases e : st cs i = i
    · rw [it_fix e, it_fix e]
    · have hi : i < cs.length := by
        rcases Nat.lt_or_ge i cs.length with q | q
        · exact q
        · exact absurd (st_none (List.getElem?_eq_none q)) e
      have e1 : st cs i = i + 1 := by
        rw [st_some (List.getElem?_eq_getElem hi)] at e ⊢
        split at e
        · rename_i h; rw [if_pos h]
        · exact absurd rfl e
      show it cs n (st cs i) = _
      rw [e1, it_eq n (i + 1) (by omega), show cs.length - i = (cs.length - (i + 1)) + 1 by omega]
      show _ = it cs _ (st cs i)
      rw [e1]
def shLx : Shape := [("com/example/recaller/recaller/Lexer", "text", "Ljava/lang/String;"), ("com/example/recaller/recaller/Lexer", "subject", "Ljava/lang/String;"), ("com/example/recaller/recaller/Lexer", "position", "I")]
theorem shLx_ok {Z : State} {a0 : Array Value} (hw : ∀ d ∈ tables_1, d.before a0 Z = true) : ShOk Z a0 "com/example/recaller/recaller/Lexer" shLx := fun i f hf => match i, hf with
    | 0, hf => by cases hf; exact ⟨(Or.inr (own_w hw 35 rfl)), _, (by decide : parseFieldDescriptor "Ljava/lang/String;" = some (.object "java/lang/String"))⟩
    | 1, hf => by cases hf; exact ⟨(Or.inr (own_w hw 37 rfl)), _, (by decide : parseFieldDescriptor "Ljava/lang/String;" = some (.object "java/lang/String"))⟩
    | 2, hf => by cases hf; exact ⟨(Or.inl (own_w hw 48 rfl)), _, (by decide : parseFieldDescriptor "I" = some .int)⟩
    | i + 3, hf => by simp [shLx] at hf
theorem shLx_nd : (shLx.map (·.2.1)).Nodup := by decide +kernel
theorem shLx_ds : shLx.map (fun f => (parseFieldDescriptor f.2.2).map defaultValue) = [Value.null, .null, .int 0].map some := by decide +kernel
theorem d20_0 : decode prog_21_method_1_code 0 = .ok (.aload_n 0, 1) := by decide +kernel
theorem d20_1 : decode prog_21_method_1_code 1 = .ok (.invokespecial 1, 3) := by decide +kernel
theorem d20_4 : decode prog_21_method_1_code 4 = .ok (.aload_n 0, 1) := by decide +kernel
theorem d20_5 : decode prog_21_method_1_code 5 = .ok (.aload_n 1, 1) := by decide +kernel
theorem d20_6 : decode prog_21_method_1_code 6 = .ok (.putfield 7, 3) := by decide +kernel
theorem d20_9 : decode prog_21_method_1_code 9 = .ok (.aload_n 0, 1) := by decide +kernel
theorem d20_10 : decode prog_21_method_1_code 10 = .ok (.aload_n 2, 1) := by decide +kernel
theorem d20_11 : decode prog_21_method_1_code 11 = .ok (.putfield 13, 3) := by decide +kernel
theorem d20_14 : decode prog_21_method_1_code 14 = .ok (.return_, 1) := by decide +kernel
theorem ef_lxI (m : MethodId) (x : Addr) (a : Addr) (b : Addr) : entryFrame m #[(.ref x), (.ref a), (.ref b)] 3 = mkF m 0 #[.val (.ref x), .val (.ref a), .val (.ref b)] [] := by first | (simp [entryFrame, mkF, argsToLocals, Value.category]; done) | rfl
theorem pn_5 : plainName "com/example/recaller/recaller/Lexer" = true := by first | (simp [plainName, overriddenIn]; done) | decide +kernel
set_option maxRecDepth 65536 in
set_option maxHeartbeats 40000000 in
theorem con_lxI {kn : Prop} (l : Launch) (Z : State) (a0 : Array Value) (E0 : Env0 Z a0) (O P : List Ent) (x a b : Addr) :
    Con kn l Z EL0 (⟨"com/example/recaller/recaller/Lexer", "<init>", "(Ljava/lang/String;Ljava/lang/String;)V"⟩ : MethodName) prog_21_method_1_code 3 none [] ({ frames := 1, cells := 0, slots := 0, locals := 12 } : Room) #[.ref x, .ref a, .ref b] ((x, ObjC Z "com/example/recaller/recaller/Lexer" shLx [.null, .null, .int (0 : Int32)]) :: O) P (fun v O' P' => v = none ∧ O' = (x, ObjC Z "com/example/recaller/recaller/Lexer" shLx [.ref a, .ref b, .int (0 : Int32)]) :: O ∧ P = P') := by
  obtain ⟨hw, hs0, hEL, hS, ⟨cs0, hC0, hcs0⟩, hmore⟩ := id E0
  refine con_intro (plainFor_of_name pn_5) hEL (fun m => ef_lxI m _ _ _) ?_
  intro p e s m below meth c T W hnm
  refine g_aloadN W d20_0 (q := 1) rfl rfl rfl ?_
  refine g_objInit W (own_w hw 33 rfl) (own_w hw 16 rfl) (own_w hw 17 rfl) d20_1 (q := 4) rfl rfl (Nat.le_of_ble_eq_true rfl) (Nat.le_of_ble_eq_true rfl) fun T W => ?_
  refine g_aloadN W d20_4 (q := 5) rfl rfl rfl ?_
  refine g_aloadN W d20_5 (q := 6) rfl rfl rfl ?_
  refine g_putF W (i := 0) (j := 0) rfl (shLx_ok hw) shLx_nd rfl rfl (own_w hw 34 rfl) (Or.inr ⟨(own_w hw 35 rfl), rfl, hnm⟩) (own_w hw 27 rfl) (ty := (.object "java/lang/String")) (by decide) rfl rfl d20_6 (q := 9) rfl (vs' := [.ref a, .null, .int (0 : Int32)]) rfl (O' := (x, ObjC Z "com/example/recaller/recaller/Lexer" shLx [.ref a, .null, .int (0 : Int32)]) :: O) rfl fun T W => ?_
  refine g_aloadN W d20_9 (q := 10) rfl rfl rfl ?_
  refine g_aloadN W d20_10 (q := 11) rfl rfl rfl ?_
  refine g_putF W (i := 0) (j := 1) rfl (shLx_ok hw) shLx_nd rfl rfl (own_w hw 36 rfl) (Or.inr ⟨(own_w hw 37 rfl), rfl, hnm⟩) (own_w hw 27 rfl) (ty := (.object "java/lang/String")) (by decide) rfl rfl d20_11 (q := 14) rfl (vs' := [.ref a, .ref b, .int (0 : Int32)]) rfl (O' := (x, ObjC Z "com/example/recaller/recaller/Lexer" shLx [.ref a, .ref b, .int (0 : Int32)]) :: O) rfl fun T W => ?_
  exact g_retV W rfl d20_14 (Nat.le_of_ble_eq_true rfl) (Nat.le_of_ble_eq_true rfl) ⟨rfl, rfl, rfl⟩
theorem d21_0 : decode prog_21_method_3_code 0 = .ok (.aload_n 0, 1) := by decide +kernel
theorem d21_1 : decode prog_21_method_3_code 1 = .ok (.getfield 19, 3) := by decide +kernel
theorem d21_4 : decode prog_21_method_3_code 4 = .ok (.ireturn, 1) := by decide +kernel
theorem ef_gp (m : MethodId) (x : Addr) : entryFrame m #[(.ref x)] 1 = mkF m 0 #[.val (.ref x)] [] := by first | (simp [entryFrame, mkF, argsToLocals, Value.category]; done) | rfl
set_option maxRecDepth 65536 in
set_option maxHeartbeats 40000000 in
theorem con_gp {kn : Prop} (l : Launch) (Z : State) (a0 : Array Value) (E0 : Env0 Z a0) (O P : List Ent) (lx tx lb : Addr) (z : Int32) :
    Con kn l Z EL0 (⟨"com/example/recaller/recaller/Lexer", "getPosition", "()I"⟩ : MethodName) prog_21_method_3_code 1 (some .int) [] ({ frames := 0, cells := 0, slots := 0, locals := 0 } : Room) #[.ref lx] ((lx, ObjC Z "com/example/recaller/recaller/Lexer" shLx [.ref tx, .ref lb, .int z]) :: O) P (fun v O' P' => v = some (.int z) ∧ O' = (lx, ObjC Z "com/example/recaller/recaller/Lexer" shLx [.ref tx, .ref lb, .int z]) :: O ∧ P = P') := by
  obtain ⟨hw, hs0, hEL, hS, ⟨cs0, hC0, hcs0⟩, hmore⟩ := id E0
  refine con_intro (plainFor_of_name pn_5) hEL (fun m => ef_gp m _) ?_
  intro p e s m below meth c T W hnm
  refine g_aloadN W d21_0 (q := 1) rfl rfl rfl ?_
  refine g_getF W (W.ow (i := 0) rfl) (i := 2) (v := .int z) rfl rfl (own_w hw 47 rfl) d21_1 (q := 4) rfl fun T W => ?_
  exact g_retI W rfl (Or.inl rfl) rfl d21_4 (Nat.le_of_ble_eq_true rfl) (Nat.le_of_ble_eq_true rfl) ⟨rfl, rfl, rfl⟩
theorem d22_0 : decode prog_21_method_20_code 0 = .ok (.aload_n 0, 1) := by decide +kernel
theorem d22_1 : decode prog_21_method_20_code 1 = .ok (.getfield 19, 3) := by decide +kernel
theorem d22_4 : decode prog_21_method_20_code 4 = .ok (.aload_n 0, 1) := by decide +kernel
theorem d22_5 : decode prog_21_method_20_code 5 = .ok (.getfield 7, 3) := by decide +kernel
theorem d22_8 : decode prog_21_method_20_code 8 = .ok (.invokevirtual 23, 3) := by decide +kernel
theorem d22_11 : decode prog_21_method_20_code 11 = .ok (.if_icmp .ge 48, 3) := by decide +kernel
theorem d22_14 : decode prog_21_method_20_code 14 = .ok (.aload_n 0, 1) := by decide +kernel
theorem d22_15 : decode prog_21_method_20_code 15 = .ok (.getfield 7, 3) := by decide +kernel
theorem d22_18 : decode prog_21_method_20_code 18 = .ok (.aload_n 0, 1) := by decide +kernel
theorem d22_19 : decode prog_21_method_20_code 19 = .ok (.getfield 19, 3) := by decide +kernel
theorem d22_22 : decode prog_21_method_20_code 22 = .ok (.invokevirtual 29, 3) := by decide +kernel
theorem d22_25 : decode prog_21_method_20_code 25 = .ok (.bipush 32, 2) := by decide +kernel
theorem d22_27 : decode prog_21_method_20_code 27 = .ok (.if_icmp .eq 19, 3) := by decide +kernel
theorem d22_30 : decode prog_21_method_20_code 30 = .ok (.aload_n 0, 1) := by decide +kernel
theorem d22_31 : decode prog_21_method_20_code 31 = .ok (.getfield 7, 3) := by decide +kernel
theorem d22_34 : decode prog_21_method_20_code 34 = .ok (.aload_n 0, 1) := by decide +kernel
theorem d22_35 : decode prog_21_method_20_code 35 = .ok (.getfield 19, 3) := by decide +kernel
theorem d22_38 : decode prog_21_method_20_code 38 = .ok (.invokevirtual 29, 3) := by decide +kernel
theorem d22_41 : decode prog_21_method_20_code 41 = .ok (.bipush 9, 2) := by decide +kernel
theorem d22_43 : decode prog_21_method_20_code 43 = .ok (.if_icmp .ne 16, 3) := by decide +kernel
theorem d22_46 : decode prog_21_method_20_code 46 = .ok (.aload_n 0, 1) := by decide +kernel
theorem d22_47 : decode prog_21_method_20_code 47 = .ok (.dup, 1) := by decide +kernel
theorem d22_48 : decode prog_21_method_20_code 48 = .ok (.getfield 19, 3) := by decide +kernel
theorem d22_51 : decode prog_21_method_20_code 51 = .ok (.iconst 1, 1) := by decide +kernel
theorem d22_52 : decode prog_21_method_20_code 52 = .ok (.iadd, 1) := by decide +kernel
theorem d22_53 : decode prog_21_method_20_code 53 = .ok (.putfield 19, 3) := by decide +kernel
theorem d22_56 : decode prog_21_method_20_code 56 = .ok (.goto (-56), 3) := by decide +kernel
theorem d22_59 : decode prog_21_method_20_code 59 = .ok (.return_, 1) := by decide +kernel
theorem pd_14 : parseMethodDescriptor "()I" = some ⟨[], (some .int)⟩ := by decide +kernel
theorem pd_15 : parseMethodDescriptor "(I)C" = some ⟨[.int], (some .char)⟩ := by decide +kernel
set_option maxRecDepth 65536 in
set_option maxHeartbeats 40000000 in
theorem sk_loop {kn : Prop} {p : Program} {l : Launch} {e : Env} {s : State} {m : MethodId} {args : Array Value} {below : List Frame} {meth : Method} {c : Code} {Z : State} {a0 : Array Value} {P : List Ent} (E0 : Env0 Z a0) {O : List Ent} {lx tx lb : Addr} {cs : List Int32} {Q : Option Value → List Ent → List Ent → Prop} (hs : IsStr Z P tx cs) (hlen : cs.length ≤ 60000) (hc : ∀ d ∈ cs, 0 ≤ d.toInt ∧ d.toInt < 65536) : ∀ (j q : Nat), q + j = cs.length → Q none ((lx, ObjC Z "com/example/recaller/recaller/Lexer" shLx [.ref tx, .ref lb, .int (it cs j q).toInt32]) :: O) P → ∀ (T : State),
    Wk kn p l e ({ frames := 5, cells := 0, slots := 0, locals := 66 } : Room) s m args below meth c prog_21_method_20_code 1 none Z a0 EL0 "com/example/recaller/recaller/Lexer" T ((lx, ObjC Z "com/example/recaller/recaller/Lexer" shLx [.ref tx, .ref lb, .int q.toInt32]) :: O) P 0 0 → Go p e below s ({ frames := 5, cells := 0, slots := 0, locals := 66 } : Room) Z EL0 Q T (mkF m 0 #[.val (.ref lx)] []) := by
  obtain ⟨hw, hs0, hEL, hS, ⟨cs0, hC0, hcs0⟩, hmore⟩ := id E0
  obtain ⟨φx, hsx, fx⟩ := hs.cell
  intro j
  induction j with
  | zero =>
    intro q hj hQ T W
    refine g_aloadN W d22_0 (q := 1) rfl rfl rfl ?_
    refine g_getF W (W.ow (i := 0) rfl) (i := 2) (v := .int q.toInt32) rfl rfl (own_w hw 47 rfl) d22_1 (q := 4) rfl fun T W => ?_
    refine g_aloadN W d22_4 (q := 5) rfl rfl rfl ?_
    refine g_getF W (W.ow (i := 0) rfl) (i := 0) (v := .ref tx) rfl rfl (own_w hw 34 rfl) d22_5 (q := 8) rfl fun T W => ?_
    refine g_virtual W (con_slen l Z a0 E0 _ P tx cs (by omega) hs) (own_ex (W.rd hsx) fx) (argsL := []) (rest := [(.int q.toInt32)]) rfl rfl pd_14 rfl (own_w hw 49 rfl) (own_w hw 50 rfl) (own_w hw 52 rfl) (own_w hw 51 rfl) (own_w hw 7 rfl) (own_w hw 53 rfl) (by decide) d22_8 (q := 11) rfl rfl (Nat.le_of_ble_eq_true rfl) (Nat.le_of_ble_eq_true rfl) (Nat.le_of_ble_eq_true rfl) (Nat.le_of_ble_eq_true rfl) ?_
    rintro _ _ _ T ⟨rfl, rfl, rfl⟩ W
    refine g_icY W d22_11 (q := 59) (XT.ii_ge_t (fun z => absurd ((own_lt (by omega) (by omega)).mp z) (by omega))) (by decide) (by decide) ?_
    exact g_retV W rfl d22_59 (Nat.le_of_ble_eq_true rfl) (Nat.le_of_ble_eq_true rfl) hQ
  | succ j ih =>
    intro q hj hQ T W
    have hq3 : q < cs.length := by omega
    obtain ⟨d, hd⟩ : ∃ d, cs[q]? = some d := ⟨_, List.getElem?_eq_getElem hq3⟩
    refine g_aloadN W d22_0 (q := 1) rfl rfl rfl ?_
    refine g_getF W (W.ow (i := 0) rfl) (i := 2) (v := .int q.toInt32) rfl rfl (own_w hw 47 rfl) d22_1 (q := 4) rfl fun T W => ?_
    refine g_aloadN W d22_4 (q := 5) rfl rfl rfl ?_
    refine g_getF W (W.ow (i := 0) rfl) (i := 0) (v := .ref tx) rfl rfl (own_w hw 34 rfl) d22_5 (q := 8) rfl fun T W => ?_
    refine g_virtual W (con_slen l Z a0 E0 _ P tx cs (by omega) hs) (own_ex (W.rd hsx) fx) (argsL := []) (rest := [(.int q.toInt32)]) rfl rfl pd_14 rfl (own_w hw 49 rfl) (own_w hw 50 rfl) (own_w hw 52 rfl) (own_w hw 51 rfl) (own_w hw 7 rfl) (own_w hw 53 rfl) (by decide) d22_8 (q := 11) rfl rfl (Nat.le_of_ble_eq_true rfl) (Nat.le_of_ble_eq_true rfl) (Nat.le_of_ble_eq_true rfl) (Nat.le_of_ble_eq_true rfl) ?_
    rintro _ _ _ T ⟨rfl, rfl, rfl⟩ W
    refine g_icN W d22_11 (q := 14) (XT.ii_ge_f ((own_lt (by omega) (by omega)).mpr hq3)) rfl ?_
    refine g_aloadN W d22_14 (q := 15) rfl rfl rfl ?_
    refine g_getF W (W.ow (i := 0) rfl) (i := 0) (v := .ref tx) rfl rfl (own_w hw 34 rfl) d22_15 (q := 18) rfl fun T W => ?_
    refine g_aloadN W d22_18 (q := 19) rfl rfl rfl ?_
    refine g_getF W (W.ow (i := 0) rfl) (i := 2) (v := .int q.toInt32) rfl rfl (own_w hw 47 rfl) d22_19 (q := 22) rfl fun T W => ?_
    refine g_virtual W (con_cha l Z a0 E0 _ P tx cs q d (by omega) hd (hc _ (List.mem_of_getElem? hd)) hs) (own_ex (W.rd hsx) fx) (argsL := [(.int q.toInt32)]) (rest := []) rfl rfl pd_15 rfl (own_w hw 81 rfl) (own_w hw 82 rfl) (own_w hw 84 rfl) (own_w hw 83 rfl) (own_w hw 7 rfl) (own_w hw 85 rfl) (by decide) d22_22 (q := 25) rfl rfl (Nat.le_of_ble_eq_true rfl) (Nat.le_of_ble_eq_true rfl) (Nat.le_of_ble_eq_true rfl) (Nat.le_of_ble_eq_true rfl) ?_
    rintro _ _ _ T ⟨rfl, rfl, rfl⟩ W
    refine g_bipush W (v := (32 : Int32)) d22_25 (q := 27) rfl rfl ?_
    by_cases h32 : d = (32 : Int32)
    · refine g_icY W d22_27 (q := 46) (XT.ii_eq_t h32) (by decide) (by decide) ?_
      refine g_aloadN W d22_46 (q := 47) rfl rfl rfl ?_
      refine g_dup W d22_47 (q := 48) rfl rfl ?_
      refine g_getF W (W.ow (i := 0) rfl) (i := 2) (v := .int q.toInt32) rfl rfl (own_w hw 47 rfl) d22_48 (q := 51) rfl fun T W => ?_
      refine g_iconst W (v := (1 : Int32)) d22_51 (q := 52) rfl rfl ?_
      refine g_iadd W d22_52 (q := 53) (z := (q + 1).toInt32) (own_succ (by omega)) rfl ?_
      refine g_putF W (i := 0) (j := 2) rfl (shLx_ok hw) shLx_nd rfl rfl (own_w hw 47 rfl) (Or.inl (own_w hw 48 rfl)) (own_w hw 27 rfl) (ty := .int) (by decide) rfl rfl d22_53 (q := 56) rfl (vs' := [.ref tx, .ref lb, .int (q + 1).toInt32]) rfl (O' := (lx, ObjC Z "com/example/recaller/recaller/Lexer" shLx [.ref tx, .ref lb, .int (q + 1).toInt32]) :: O) rfl fun T W => ?_
      refine g_goto W d22_56 (q := 0) (by decide) (by decide) ?_
      exact ih (q + 1) (by omega) (by have e : it cs (j + 1) q = it cs j (q + 1) := by { show it cs j (st cs q) = _; rw [st_some hd, if_pos (Or.inl h32)] }; rw [← e]; exact hQ) T W
    · refine g_icN W d22_27 (q := 30) (XT.ii_eq_f h32) rfl ?_
      refine g_aloadN W d22_30 (q := 31) rfl rfl rfl ?_
      refine g_getF W (W.ow (i := 0) rfl) (i := 0) (v := .ref tx) rfl rfl (own_w hw 34 rfl) d22_31 (q := 34) rfl fun T W => ?_
      refine g_aloadN W d22_34 (q := 35) rfl rfl rfl ?_
      refine g_getF W (W.ow (i := 0) rfl) (i := 2) (v := .int q.toInt32) rfl rfl (own_w hw 47 rfl) d22_35 (q := 38) rfl fun T W => ?_
      refine g_virtual W (con_cha l Z a0 E0 _ P tx cs q d (by omega) hd (hc _ (List.mem_of_getElem? hd)) hs) (own_ex (W.rd hsx) fx) (argsL := [(.int q.toInt32)]) (rest := []) rfl rfl pd_15 rfl (own_w hw 81 rfl) (own_w hw 82 rfl) (own_w hw 84 rfl) (own_w hw 83 rfl) (own_w hw 7 rfl) (own_w hw 85 rfl) (by decide) d22_38 (q := 41) rfl rfl (Nat.le_of_ble_eq_true rfl) (Nat.le_of_ble_eq_true rfl) (Nat.le_of_ble_eq_true rfl) (Nat.le_of_ble_eq_true rfl) ?_
      rintro _ _ _ T ⟨rfl, rfl, rfl⟩ W
      refine g_bipush W (v := (9 : Int32)) d22_41 (q := 43) rfl rfl ?_
      by_cases h9 : d = (9 : Int32)
      · refine g_icN W d22_43 (q := 46) (XT.ii_ne_f h9) rfl ?_
        refine g_aloadN W d22_46 (q := 47) rfl rfl rfl ?_
        refine g_dup W d22_47 (q := 48) rfl rfl ?_
        refine g_getF W (W.ow (i := 0) rfl) (i := 2) (v := .int q.toInt32) rfl rfl (own_w hw 47 rfl) d22_48 (q := 51) rfl fun T W => ?_
        refine g_iconst W (v := (1 : Int32)) d22_51 (q := 52) rfl rfl ?_
        refine g_iadd W d22_52 (q := 53) (z := (q + 1).toInt32) (own_succ (by omega)) rfl ?_
        refine g_putF W (i := 0) (j := 2) rfl (shLx_ok hw) shLx_nd rfl rfl (own_w hw 47 rfl) (Or.inl (own_w hw 48 rfl)) (own_w hw 27 rfl) (ty := .int) (by decide) rfl rfl d22_53 (q := 56) rfl (vs' := [.ref tx, .ref lb, .int (q + 1).toInt32]) rfl (O' := (lx, ObjC Z "com/example/recaller/recaller/Lexer" shLx [.ref tx, .ref lb, .int (q + 1).toInt32]) :: O) rfl fun T W => ?_
        refine g_goto W d22_56 (q := 0) (by decide) (by decide) ?_
        exact ih (q + 1) (by omega) (by have e : it cs (j + 1) q = it cs j (q + 1) := by { show it cs j (st cs q) = _; rw [st_some hd, if_pos (Or.inr h9)] }; rw [← e]; exact hQ) T W
      · refine g_icY W d22_43 (q := 59) (XT.ii_ne_t h9) (by decide) (by decide) ?_
        exact g_retV W rfl d22_59 (Nat.le_of_ble_eq_true rfl) (Nat.le_of_ble_eq_true rfl) (by have e : it cs (j + 1) q = q := it_fix (by rw [st_some hd, if_neg (by intro h; rcases h with h | h; exact h32 h; exact h9 h)]) _; rw [e] at hQ; exact hQ)
theorem ef_sk (m : MethodId) (x : Addr) : entryFrame m #[(.ref x)] 1 = mkF m 0 #[.val (.ref x)] [] := by first | (simp [entryFrame, mkF, argsToLocals, Value.category]; done) | rfl
set_option maxRecDepth 65536 in
set_option maxHeartbeats 40000000 in
theorem con_sk {kn : Prop} (l : Launch) (Z : State) (a0 : Array Value) (E0 : Env0 Z a0) (O P : List Ent) (lx tx lb : Addr) (cs : List Int32) (q : Nat) (hs : IsStr Z P tx cs) (hlen : cs.length ≤ 60000) (hc : ∀ d ∈ cs, 0 ≤ d.toInt ∧ d.toInt < 65536) (hq : q ≤ cs.length) :
    Con kn l Z EL0 (⟨"com/example/recaller/recaller/Lexer", "skipSpace", "()V"⟩ : MethodName) prog_21_method_20_code 1 none [] ({ frames := 5, cells := 0, slots := 0, locals := 66 } : Room) #[.ref lx] ((lx, ObjC Z "com/example/recaller/recaller/Lexer" shLx [.ref tx, .ref lb, .int q.toInt32]) :: O) P (fun v O' P' => v = none ∧ O' = (lx, ObjC Z "com/example/recaller/recaller/Lexer" shLx [.ref tx, .ref lb, .int (it cs (cs.length - q) q).toInt32]) :: O ∧ P = P') := by
  obtain ⟨hw, hs0, hEL, hS, ⟨cs0, hC0, hcs0⟩, hmore⟩ := id E0
  refine con_intro (plainFor_of_name pn_5) hEL (fun m => ef_sk m _) ?_
  intro p e s m below meth c T W hnm
  exact sk_loop E0 hs hlen hc (cs.length - q) q (by omega) ⟨rfl, rfl, rfl⟩ T W
theorem d23_0 : decode prog_21_method_4_code 0 = .ok (.aload_n 0, 1) := by decide +kernel
theorem d23_1 : decode prog_21_method_4_code 1 = .ok (.invokevirtual 16, 3) := by decide +kernel
theorem d23_4 : decode prog_21_method_4_code 4 = .ok (.aload_n 0, 1) := by decide +kernel
theorem d23_5 : decode prog_21_method_4_code 5 = .ok (.getfield 19, 3) := by decide +kernel
theorem d23_8 : decode prog_21_method_4_code 8 = .ok (.aload_n 0, 1) := by decide +kernel
theorem d23_9 : decode prog_21_method_4_code 9 = .ok (.getfield 7, 3) := by decide +kernel
theorem d23_12 : decode prog_21_method_4_code 12 = .ok (.invokevirtual 23, 3) := by decide +kernel
theorem d23_15 : decode prog_21_method_4_code 15 = .ok (.if_icmp .ge 30, 3) := by decide +kernel
theorem d23_18 : decode prog_21_method_4_code 18 = .ok (.aload_n 0, 1) := by decide +kernel
theorem d23_19 : decode prog_21_method_4_code 19 = .ok (.getfield 7, 3) := by decide +kernel
theorem d23_22 : decode prog_21_method_4_code 22 = .ok (.aload_n 0, 1) := by decide +kernel
theorem d23_23 : decode prog_21_method_4_code 23 = .ok (.getfield 19, 3) := by decide +kernel
theorem d23_26 : decode prog_21_method_4_code 26 = .ok (.invokevirtual 29, 3) := by decide +kernel
theorem d23_29 : decode prog_21_method_4_code 29 = .ok (.iload_n 1, 1) := by decide +kernel
theorem d23_30 : decode prog_21_method_4_code 30 = .ok (.if_icmp .ne 15, 3) := by decide +kernel
theorem d23_33 : decode prog_21_method_4_code 33 = .ok (.aload_n 0, 1) := by decide +kernel
theorem d23_34 : decode prog_21_method_4_code 34 = .ok (.dup, 1) := by decide +kernel
theorem d23_35 : decode prog_21_method_4_code 35 = .ok (.getfield 19, 3) := by decide +kernel
theorem d23_38 : decode prog_21_method_4_code 38 = .ok (.iconst 1, 1) := by decide +kernel
theorem d23_39 : decode prog_21_method_4_code 39 = .ok (.iadd, 1) := by decide +kernel
theorem d23_40 : decode prog_21_method_4_code 40 = .ok (.putfield 19, 3) := by decide +kernel
theorem d23_43 : decode prog_21_method_4_code 43 = .ok (.iconst 1, 1) := by decide +kernel
theorem d23_44 : decode prog_21_method_4_code 44 = .ok (.ireturn, 1) := by decide +kernel
theorem d23_45 : decode prog_21_method_4_code 45 = .ok (.iconst 0, 1) := by decide +kernel
theorem d23_46 : decode prog_21_method_4_code 46 = .ok (.ireturn, 1) := by decide +kernel
theorem ef_acc (m : MethodId) (x : Addr) (y : Int32) : entryFrame m #[(.ref x), (.int y)] 2 = mkF m 0 #[.val (.ref x), .val (.int y)] [] := by first | (simp [entryFrame, mkF, argsToLocals, Value.category]; done) | rfl
theorem pd_16 : parseMethodDescriptor "()V" = some ⟨[], none⟩ := by decide +kernel
set_option maxRecDepth 65536 in
set_option maxHeartbeats 40000000 in
theorem con_acc {kn : Prop} (l : Launch) (Z : State) (a0 : Array Value) (E0 : Env0 Z a0) (O P : List Ent) (lx tx lb : Addr) (cs : List Int32) (q : Nat) (kk : Int32) (hs : IsStr Z P tx cs) (hlen : cs.length ≤ 60000) (hc : ∀ d ∈ cs, 0 ≤ d.toInt ∧ d.toInt < 65536) (hq : q ≤ cs.length) :
    Con kn l Z EL0 (⟨"com/example/recaller/recaller/Lexer", "accept", "(C)Z"⟩ : MethodName) prog_21_method_4_code 2 (some .boolean) [] ({ frames := 6, cells := 0, slots := 0, locals := 78 } : Room) #[.ref lx, .int kk] ((lx, ObjC Z "com/example/recaller/recaller/Lexer" shLx [.ref tx, .ref lb, .int q.toInt32]) :: O) P (fun v O' P' => v = some (.int (if cs[(it cs (cs.length - q) q)]? = some kk then (1 : Int32) else 0)) ∧ O' = (lx, ObjC Z "com/example/recaller/recaller/Lexer" shLx [.ref tx, .ref lb, .int (if cs[(it cs (cs.length - q) q)]? = some kk then (it cs (cs.length - q) q) + 1 else (it cs (cs.length - q) q)).toInt32]) :: O ∧ P = P') := by
  obtain ⟨hw, hs0, hEL, hS, ⟨cs0, hC0, hcs0⟩, hmore⟩ := id E0
  refine con_intro (plainFor_of_name pn_5) hEL (fun m => ef_acc m _ _) ?_
  intro p e s m below meth c T W hnm
  obtain ⟨φx, hsx, fx⟩ := hs.cell
  refine g_aloadN W d23_0 (q := 1) rfl rfl rfl ?_
  refine g_private W (con_sk l Z a0 E0 O P lx tx lb cs q hs hlen hc hq) (own_ex (W.ow (i := 0) rfl) fun _ h => h.1) (argsL := []) (rest := []) rfl rfl pd_16 rfl (own_w hw 43 rfl) (own_w hw 44 rfl) (own_w hw 45 rfl) (own_w hw 27 rfl) (own_w hw 28 rfl) (own_w hw 46 rfl) (by decide) d23_1 (q := 4) rfl rfl (Nat.le_of_ble_eq_true rfl) (Nat.le_of_ble_eq_true rfl) (Nat.le_of_ble_eq_true rfl) (Nat.le_of_ble_eq_true rfl) ?_
  rintro _ _ _ T ⟨rfl, rfl, rfl⟩ W
  have hr : (it cs (cs.length - q) q) ≤ cs.length := it_le _ _ hq
  generalize (it cs (cs.length - q) q) = r at *
  refine g_aloadN W d23_4 (q := 5) rfl rfl rfl ?_
  refine g_getF W (W.ow (i := 0) rfl) (i := 2) (v := .int r.toInt32) rfl rfl (own_w hw 47 rfl) d23_5 (q := 8) rfl fun T W => ?_
  refine g_aloadN W d23_8 (q := 9) rfl rfl rfl ?_
  refine g_getF W (W.ow (i := 0) rfl) (i := 0) (v := .ref tx) rfl rfl (own_w hw 34 rfl) d23_9 (q := 12) rfl fun T W => ?_
  refine g_virtual W (con_slen l Z a0 E0 _ P tx cs (by omega) hs) (own_ex (W.rd hsx) fx) (argsL := []) (rest := [(.int r.toInt32)]) rfl rfl pd_14 rfl (own_w hw 49 rfl) (own_w hw 50 rfl) (own_w hw 52 rfl) (own_w hw 51 rfl) (own_w hw 7 rfl) (own_w hw 53 rfl) (by decide) d23_12 (q := 15) rfl rfl (Nat.le_of_ble_eq_true rfl) (Nat.le_of_ble_eq_true rfl) (Nat.le_of_ble_eq_true rfl) (Nat.le_of_ble_eq_true rfl) ?_
  rintro _ _ _ T ⟨rfl, rfl, rfl⟩ W
  by_cases hlt : r.toInt32 < cs.length.toInt32
  · refine g_icN W d23_15 (q := 18) (XT.ii_ge_f hlt) rfl ?_
    have hr2 : r < cs.length := (own_lt (by omega) (by omega)).mp hlt
    obtain ⟨d, hd⟩ : ∃ d, cs[r]? = some d := ⟨_, List.getElem?_eq_getElem hr2⟩
    refine g_aloadN W d23_18 (q := 19) rfl rfl rfl ?_
    refine g_getF W (W.ow (i := 0) rfl) (i := 0) (v := .ref tx) rfl rfl (own_w hw 34 rfl) d23_19 (q := 22) rfl fun T W => ?_
    refine g_aloadN W d23_22 (q := 23) rfl rfl rfl ?_
    refine g_getF W (W.ow (i := 0) rfl) (i := 2) (v := .int r.toInt32) rfl rfl (own_w hw 47 rfl) d23_23 (q := 26) rfl fun T W => ?_
    refine g_virtual W (con_cha l Z a0 E0 _ P tx cs r d (by omega) hd (hc _ (List.mem_of_getElem? hd)) hs) (own_ex (W.rd hsx) fx) (argsL := [(.int r.toInt32)]) (rest := []) rfl rfl pd_15 rfl (own_w hw 81 rfl) (own_w hw 82 rfl) (own_w hw 84 rfl) (own_w hw 83 rfl) (own_w hw 7 rfl) (own_w hw 85 rfl) (by decide) d23_26 (q := 29) rfl rfl (Nat.le_of_ble_eq_true rfl) (Nat.le_of_ble_eq_true rfl) (Nat.le_of_ble_eq_true rfl) (Nat.le_of_ble_eq_true rfl) ?_
    rintro _ _ _ T ⟨rfl, rfl, rfl⟩ W
    refine g_iloadN W d23_29 (q := 30) rfl rfl ?_
    by_cases hk : d = kk
    · refine g_icN W d23_30 (q := 33) (XT.ii_ne_f hk) rfl ?_
      refine g_aloadN W d23_33 (q := 34) rfl rfl rfl ?_
      refine g_dup W d23_34 (q := 35) rfl rfl ?_
      refine g_getF W (W.ow (i := 0) rfl) (i := 2) (v := .int r.toInt32) rfl rfl (own_w hw 47 rfl) d23_35 (q := 38) rfl fun T W => ?_
      refine g_iconst W (v := (1 : Int32)) d23_38 (q := 39) rfl rfl ?_
      refine g_iadd W d23_39 (q := 40) (z := (r + 1).toInt32) (own_succ (by omega)) rfl ?_
      refine g_putF W (i := 0) (j := 2) rfl (shLx_ok hw) shLx_nd rfl rfl (own_w hw 47 rfl) (Or.inl (own_w hw 48 rfl)) (own_w hw 27 rfl) (ty := .int) (by decide) rfl rfl d23_40 (q := 43) rfl (vs' := [.ref tx, .ref lb, .int (r + 1).toInt32]) rfl (O' := (lx, ObjC Z "com/example/recaller/recaller/Lexer" shLx [.ref tx, .ref lb, .int (r + 1).toInt32]) :: O) rfl fun T W => ?_
      refine g_iconst W (v := (1 : Int32)) d23_43 (q := 44) rfl rfl ?_
      exact g_retI W rfl (Or.inr (Or.inl rfl)) rfl d23_44 (Nat.le_of_ble_eq_true rfl) (Nat.le_of_ble_eq_true rfl) ⟨by rw [hd, hk, if_pos rfl], by rw [hd, hk, if_pos rfl], rfl⟩
    · refine g_icY W d23_30 (q := 45) (XT.ii_ne_t hk) (by decide) (by decide) ?_
      refine g_iconst W (v := (0 : Int32)) d23_45 (q := 46) rfl rfl ?_
      exact g_retI W rfl (Or.inr (Or.inl rfl)) rfl d23_46 (Nat.le_of_ble_eq_true rfl) (Nat.le_of_ble_eq_true rfl) ⟨by rw [hd, if_neg (fun e => hk (Option.some.inj e))], by rw [hd, if_neg (fun e => hk (Option.some.inj e))], rfl⟩
  · refine g_icY W d23_15 (q := 45) (XT.ii_ge_t hlt) (by decide) (by decide) ?_
    have hn : cs[r]? = none := List.getElem?_eq_none (by rcases Nat.lt_or_ge r cs.length with q | q; exact absurd ((own_lt (by omega) (by omega)).mpr q) hlt; exact q)
    refine g_iconst W (v := (0 : Int32)) d23_45 (q := 46) rfl rfl ?_
    exact g_retI W rfl (Or.inr (Or.inl rfl)) rfl d23_46 (Nat.le_of_ble_eq_true rfl) (Nat.le_of_ble_eq_true rfl) ⟨by rw [hn, if_neg (by simp)], by rw [hn, if_neg (by simp)], rfl⟩
theorem own_c16' (x : Int32) : ∃ c : Int32, (0 ≤ c.toInt ∧ c.toInt < 65536) ∧ x.toUInt32.toUInt16.toUInt32.toInt32 = c := by
  have h1 := c_i2c x
  exact ⟨_, ⟨h1.2.1, h1.2.2⟩, rfl⟩
theorem own_and3 (x : Int32) : ∃ ln : Nat, (ln = 0 ∨ ln = 1 ∨ ln = 2 ∨ ln = 3) ∧ x &&& (3 : Int32) = ln.toInt32 := by
  have h1 := c_and x 3 (by decide)
  have e : (3 : Int32).toInt = 3 := by decide
  refine ⟨(x &&& (3 : Int32)).toInt.toNat, by omega, ?_⟩
  rw [← Int32.toInt_inj, own_i32 (by omega)]; omega
theorem d24_0 : decode method_2_code 0 = .ok (.iload_n 0, 1) := by decide +kernel
theorem d24_1 : decode method_2_code 1 = .ok (.ifCond .ne 6, 3) := by decide +kernel
theorem d24_4 : decode method_2_code 4 = .ok (.bipush 32, 2) := by decide +kernel
theorem d24_6 : decode method_2_code 6 = .ok (.ireturn, 1) := by decide +kernel
theorem d24_7 : decode method_2_code 7 = .ok (.iload_n 0, 1) := by decide +kernel
theorem d24_8 : decode method_2_code 8 = .ok (.iconst 1, 1) := by decide +kernel
theorem d24_9 : decode method_2_code 9 = .ok (.if_icmp .ne 6, 3) := by decide +kernel
theorem d24_12 : decode method_2_code 12 = .ok (.bipush 9, 2) := by decide +kernel
theorem d24_14 : decode method_2_code 14 = .ok (.ireturn, 1) := by decide +kernel
theorem d24_15 : decode method_2_code 15 = .ok (.iload_n 0, 1) := by decide +kernel
theorem d24_16 : decode method_2_code 16 = .ok (.iconst 2, 1) := by decide +kernel
theorem d24_17 : decode method_2_code 17 = .ok (.if_icmp .ne 5, 3) := by decide +kernel
theorem d24_20 : decode method_2_code 20 = .ok (.iload_n 2, 1) := by decide +kernel
theorem d24_21 : decode method_2_code 21 = .ok (.ireturn, 1) := by decide +kernel
theorem d24_22 : decode method_2_code 22 = .ok (.iload_n 0, 1) := by decide +kernel
theorem d24_23 : decode method_2_code 23 = .ok (.iconst 3, 1) := by decide +kernel
theorem d24_24 : decode method_2_code 24 = .ok (.if_icmp .ne 5, 3) := by decide +kernel
theorem d24_27 : decode method_2_code 27 = .ok (.iload_n 3, 1) := by decide +kernel
theorem d24_28 : decode method_2_code 28 = .ok (.ireturn, 1) := by decide +kernel
theorem d24_29 : decode method_2_code 29 = .ok (.iload_n 1, 1) := by decide +kernel
theorem d24_30 : decode method_2_code 30 = .ok (.i2c, 1) := by decide +kernel
theorem d24_31 : decode method_2_code 31 = .ok (.ireturn, 1) := by decide +kernel
theorem ef_mk (m : MethodId) (sl : Int32) (r : Int32) (a : Int32) (b : Int32) : entryFrame m #[(.int sl), (.int r), (.int a), (.int b)] 4 = mkF m 0 #[.val (.int sl), .val (.int r), .val (.int a), .val (.int b)] [] := by first | (simp [entryFrame, mkF, argsToLocals, Value.category]; done) | rfl
theorem pn_6 : plainName "com/example/recaller/recaller/LexerAcceptPinLaw" = true := by first | (simp [plainName, overriddenIn]; done) | decide +kernel
set_option maxRecDepth 65536 in
set_option maxHeartbeats 40000000 in
theorem con_mk {kn : Prop} (l : Launch) (Z : State) (a0 : Array Value) (E0 : Env0 Z a0) (O P : List Ent) (sl r ca cb : Int32) (ha : (0 ≤ (ca).toInt ∧ (ca).toInt < 65536)) (hb : (0 ≤ (cb).toInt ∧ (cb).toInt < 65536)) :
    Con kn l Z EL0 (⟨"com/example/recaller/recaller/LexerAcceptPinLaw", "mk", "(IICC)C"⟩ : MethodName) method_2_code 4 (some .char) [] ({ frames := 0, cells := 0, slots := 0, locals := 0 } : Room) #[.int sl, .int r, .int ca, .int cb] O P (fun v O' P' => ∃ ch : Int32, v = some (.int ch) ∧ (0 ≤ ch.toInt ∧ ch.toInt < 65536) ∧ O = O' ∧ P = P') := by
  obtain ⟨hw, hs0, hEL, hS, ⟨cs0, hC0, hcs0⟩, ⟨fv, hFv, hfv⟩, hAD, hHI, hLO⟩ := id E0
  refine con_intro (plainFor_of_name pn_6) hEL (fun m => ef_mk m _ _ _ _) ?_
  intro p e s m below meth c T W hnm
  obtain ⟨d, hd, ed⟩ := own_c16' r
  refine g_iloadN W d24_0 (q := 1) rfl rfl ?_
  by_cases h0 : sl = 0
  · refine g_ifN W d24_1 (q := 4) (XT.i0_ne_f h0) rfl ?_
    refine g_bipush W (v := (32 : Int32)) d24_4 (q := 6) rfl rfl ?_
    exact g_retI W rfl (Or.inr (Or.inr (Or.inr (Or.inl rfl)))) rfl d24_6 (Nat.le_of_ble_eq_true rfl) (Nat.le_of_ble_eq_true rfl) ⟨32, rfl, by decide, rfl, rfl⟩
  · refine g_ifY W d24_1 (q := 7) (XT.i0_ne_t h0) (by decide) (by decide) ?_
    refine g_iloadN W d24_7 (q := 8) rfl rfl ?_
    refine g_iconst W (v := (1 : Int32)) d24_8 (q := 9) rfl rfl ?_
    by_cases h1 : sl = (1 : Int32)
    · refine g_icN W d24_9 (q := 12) (XT.ii_ne_f h1) rfl ?_
      refine g_bipush W (v := (9 : Int32)) d24_12 (q := 14) rfl rfl ?_
      exact g_retI W rfl (Or.inr (Or.inr (Or.inr (Or.inl rfl)))) rfl d24_14 (Nat.le_of_ble_eq_true rfl) (Nat.le_of_ble_eq_true rfl) ⟨9, rfl, by decide, rfl, rfl⟩
    · refine g_icY W d24_9 (q := 15) (XT.ii_ne_t h1) (by decide) (by decide) ?_
      refine g_iloadN W d24_15 (q := 16) rfl rfl ?_
      refine g_iconst W (v := (2 : Int32)) d24_16 (q := 17) rfl rfl ?_
      by_cases h2 : sl = (2 : Int32)
      · refine g_icN W d24_17 (q := 20) (XT.ii_ne_f h2) rfl ?_
        refine g_iloadN W d24_20 (q := 21) rfl rfl ?_
        exact g_retI W rfl (Or.inr (Or.inr (Or.inr (Or.inl rfl)))) (own_narcR ha) d24_21 (Nat.le_of_ble_eq_true rfl) (Nat.le_of_ble_eq_true rfl) ⟨ca, rfl, ha, rfl, rfl⟩
      · refine g_icY W d24_17 (q := 22) (XT.ii_ne_t h2) (by decide) (by decide) ?_
        refine g_iloadN W d24_22 (q := 23) rfl rfl ?_
        refine g_iconst W (v := (3 : Int32)) d24_23 (q := 24) rfl rfl ?_
        by_cases h3 : sl = (3 : Int32)
        · refine g_icN W d24_24 (q := 27) (XT.ii_ne_f h3) rfl ?_
          refine g_iloadN W d24_27 (q := 28) rfl rfl ?_
          exact g_retI W rfl (Or.inr (Or.inr (Or.inr (Or.inl rfl)))) (own_narcR hb) d24_28 (Nat.le_of_ble_eq_true rfl) (Nat.le_of_ble_eq_true rfl) ⟨cb, rfl, hb, rfl, rfl⟩
        · refine g_icY W d24_24 (q := 29) (XT.ii_ne_t h3) (by decide) (by decide) ?_
          refine g_iloadN W d24_29 (q := 30) rfl rfl ?_
          refine g_i2c W d24_30 (q := 31) (z := d) ed rfl ?_
          exact g_retI W rfl (Or.inr (Or.inr (Or.inr (Or.inl rfl)))) (own_narcR hd) d24_31 (Nat.le_of_ble_eq_true rfl) (Nat.le_of_ble_eq_true rfl) ⟨d, rfl, hd, rfl, rfl⟩
theorem d25_0 : decode method_3_code 0 = .ok (.iload_n 2, 1) := by decide +kernel
theorem d25_1 : decode method_3_code 1 = .ok (.iload_n 1, 1) := by decide +kernel
theorem d25_2 : decode method_3_code 2 = .ok (.if_icmp .ge 23, 3) := by decide +kernel
theorem d25_5 : decode method_3_code 5 = .ok (.aload_n 0, 1) := by decide +kernel
theorem d25_6 : decode method_3_code 6 = .ok (.iload_n 2, 1) := by decide +kernel
theorem d25_7 : decode method_3_code 7 = .ok (.caload, 1) := by decide +kernel
theorem d25_8 : decode method_3_code 8 = .ok (.bipush 32, 2) := by decide +kernel
theorem d25_10 : decode method_3_code 10 = .ok (.if_icmp .eq 11, 3) := by decide +kernel
theorem d25_13 : decode method_3_code 13 = .ok (.aload_n 0, 1) := by decide +kernel
theorem d25_14 : decode method_3_code 14 = .ok (.iload_n 2, 1) := by decide +kernel
theorem d25_15 : decode method_3_code 15 = .ok (.caload, 1) := by decide +kernel
theorem d25_16 : decode method_3_code 16 = .ok (.bipush 9, 2) := by decide +kernel
theorem d25_18 : decode method_3_code 18 = .ok (.if_icmp .ne 7, 3) := by decide +kernel
theorem d25_21 : decode method_3_code 21 = .ok (.iload_n 2, 1) := by decide +kernel
theorem d25_22 : decode method_3_code 22 = .ok (.iconst 1, 1) := by decide +kernel
theorem d25_23 : decode method_3_code 23 = .ok (.iadd, 1) := by decide +kernel
theorem d25_24 : decode method_3_code 24 = .ok (.ireturn, 1) := by decide +kernel
theorem d25_25 : decode method_3_code 25 = .ok (.iload_n 2, 1) := by decide +kernel
theorem d25_26 : decode method_3_code 26 = .ok (.ireturn, 1) := by decide +kernel
theorem ef_stp (m : MethodId) (x : Addr) (y : Int32) (z : Int32) : entryFrame m #[(.ref x), (.int y), (.int z)] 3 = mkF m 0 #[.val (.ref x), .val (.int y), .val (.int z)] [] := by first | (simp [entryFrame, mkF, argsToLocals, Value.category]; done) | rfl
set_option maxRecDepth 65536 in
set_option maxHeartbeats 40000000 in
theorem con_stp {kn : Prop} (l : Launch) (Z : State) (a0 : Array Value) (E0 : Env0 Z a0) (O P : List Ent) (ch : Addr) (cs4 : List Int32) (ln i : Nat) (hch : (ch, ArrC Z .char (cs4.map .int)) ∈ P) (h4 : cs4.length = 3) (hln : ln ≤ 3) (hi : i ≤ ln) :
    Con kn l Z EL0 (⟨"com/example/recaller/recaller/LexerAcceptPinLaw", "step", "([CII)I"⟩ : MethodName) method_3_code 3 (some .int) [] ({ frames := 0, cells := 0, slots := 0, locals := 0 } : Room) #[.ref ch, .int ln.toInt32, .int i.toInt32] O P (fun v O' P' => v = some (.int (st (cs4.take ln) i).toInt32) ∧ O = O' ∧ P = P') := by
  obtain ⟨hw, hs0, hEL, hS, ⟨cs0, hC0, hcs0⟩, ⟨fv, hFv, hfv⟩, hAD, hHI, hLO⟩ := id E0
  refine con_intro (plainFor_of_name pn_6) hEL (fun m => ef_stp m _ _ _) ?_
  intro p e s m below meth c T W hnm
  refine g_iloadN W d25_0 (q := 1) rfl rfl ?_
  refine g_iloadN W d25_1 (q := 2) rfl rfl ?_
  by_cases hlt : i < ln
  · obtain ⟨d, hd⟩ : ∃ d, cs4[i]? = some d := ⟨_, List.getElem?_eq_getElem (by omega)⟩
    have hd2 : (cs4.take ln)[i]? = some d := by rw [List.getElem?_take_of_lt hlt]; exact hd
    refine g_icN W d25_2 (q := 5) (XT.ii_ge_f ((own_lt (by omega) (by omega)).mpr hlt)) rfl ?_
    refine g_aloadN W d25_5 (q := 6) rfl rfl rfl ?_
    refine g_iloadN W d25_6 (q := 7) rfl rfl ?_
    refine g_caload W (W.rd hch) (own_nn (by omega)) (i := i) (own_clamp (by omega)) (v := .int d) (by rw [List.getElem?_map, hd]; rfl) d25_7 (q := 8) rfl ?_
    refine g_bipush W (v := (32 : Int32)) d25_8 (q := 10) rfl rfl ?_
    by_cases h0 : d = (32 : Int32)
    · refine g_icY W d25_10 (q := 21) (XT.ii_eq_t h0) (by decide) (by decide) ?_
      refine g_iloadN W d25_21 (q := 22) rfl rfl ?_
      refine g_iconst W (v := (1 : Int32)) d25_22 (q := 23) rfl rfl ?_
      refine g_iadd W d25_23 (q := 24) (z := (i + 1).toInt32) (own_succ (by omega)) rfl ?_
      exact g_retI W rfl (Or.inl rfl) rfl d25_24 (Nat.le_of_ble_eq_true rfl) (Nat.le_of_ble_eq_true rfl) ⟨by rw [st_some hd2, if_pos (Or.inl h0)], rfl, rfl⟩
    · refine g_icN W d25_10 (q := 13) (XT.ii_eq_f h0) rfl ?_
      refine g_aloadN W d25_13 (q := 14) rfl rfl rfl ?_
      refine g_iloadN W d25_14 (q := 15) rfl rfl ?_
      refine g_caload W (W.rd hch) (own_nn (by omega)) (i := i) (own_clamp (by omega)) (v := .int d) (by rw [List.getElem?_map, hd]; rfl) d25_15 (q := 16) rfl ?_
      refine g_bipush W (v := (9 : Int32)) d25_16 (q := 18) rfl rfl ?_
      by_cases h1 : d = (9 : Int32)
      · refine g_icN W d25_18 (q := 21) (XT.ii_ne_f h1) rfl ?_
        refine g_iloadN W d25_21 (q := 22) rfl rfl ?_
        refine g_iconst W (v := (1 : Int32)) d25_22 (q := 23) rfl rfl ?_
        refine g_iadd W d25_23 (q := 24) (z := (i + 1).toInt32) (own_succ (by omega)) rfl ?_
        exact g_retI W rfl (Or.inl rfl) rfl d25_24 (Nat.le_of_ble_eq_true rfl) (Nat.le_of_ble_eq_true rfl) ⟨by rw [st_some hd2, if_pos (Or.inr h1)], rfl, rfl⟩
      · refine g_icY W d25_18 (q := 25) (XT.ii_ne_t h1) (by decide) (by decide) ?_
        refine g_iloadN W d25_25 (q := 26) rfl rfl ?_
        exact g_retI W rfl (Or.inl rfl) rfl d25_26 (Nat.le_of_ble_eq_true rfl) (Nat.le_of_ble_eq_true rfl) ⟨by rw [st_some hd2, if_neg (by intro h; rcases h with h | h; exact h0 h; exact h1 h)], rfl, rfl⟩
  · refine g_icY W d25_2 (q := 25) (XT.ii_ge_t (fun z => hlt ((own_lt (by omega) (by omega)).mp z))) (by decide) (by decide) ?_
    refine g_iloadN W d25_25 (q := 26) rfl rfl ?_
    exact g_retI W rfl (Or.inl rfl) rfl d25_26 (Nat.le_of_ble_eq_true rfl) (Nat.le_of_ble_eq_true rfl) ⟨by rw [st_none (List.getElem?_eq_none (by rw [List.length_take]; omega))], rfl, rfl⟩
theorem d26_0 : decode method_4_code 0 = .ok (.aload_n 0, 1) := by decide +kernel
theorem d26_1 : decode method_4_code 1 = .ok (.iload_n 1, 1) := by decide +kernel
theorem d26_2 : decode method_4_code 2 = .ok (.iload_n 2, 1) := by decide +kernel
theorem d26_3 : decode method_4_code 3 = .ok (.invokestatic 7, 3) := by decide +kernel
theorem d26_6 : decode method_4_code 6 = .ok (.istore_n 3, 1) := by decide +kernel
theorem d26_7 : decode method_4_code 7 = .ok (.aload_n 0, 1) := by decide +kernel
theorem d26_8 : decode method_4_code 8 = .ok (.iload_n 1, 1) := by decide +kernel
theorem d26_9 : decode method_4_code 9 = .ok (.iload_n 3, 1) := by decide +kernel
theorem d26_10 : decode method_4_code 10 = .ok (.invokestatic 7, 3) := by decide +kernel
theorem d26_13 : decode method_4_code 13 = .ok (.istore_n 3, 1) := by decide +kernel
theorem d26_14 : decode method_4_code 14 = .ok (.aload_n 0, 1) := by decide +kernel
theorem d26_15 : decode method_4_code 15 = .ok (.iload_n 1, 1) := by decide +kernel
theorem d26_16 : decode method_4_code 16 = .ok (.iload_n 3, 1) := by decide +kernel
theorem d26_17 : decode method_4_code 17 = .ok (.invokestatic 7, 3) := by decide +kernel
theorem d26_20 : decode method_4_code 20 = .ok (.istore_n 3, 1) := by decide +kernel
theorem d26_21 : decode method_4_code 21 = .ok (.iload_n 3, 1) := by decide +kernel
theorem d26_22 : decode method_4_code 22 = .ok (.ireturn, 1) := by decide +kernel
theorem ef_skp (m : MethodId) (x : Addr) (y : Int32) (z : Int32) : entryFrame m #[(.ref x), (.int y), (.int z)] 4 = mkF m 0 #[.val (.ref x), .val (.int y), .val (.int z), .unset] [] := by first | (simp [entryFrame, mkF, argsToLocals, Value.category]; done) | rfl
theorem pd_17 : parseMethodDescriptor "([CII)I" = some ⟨[(.array .char), .int, .int], (some .int)⟩ := by decide +kernel
set_option maxRecDepth 65536 in
set_option maxHeartbeats 40000000 in
theorem con_skp {kn : Prop} (l : Launch) (Z : State) (a0 : Array Value) (E0 : Env0 Z a0) (O P : List Ent) (ch : Addr) (cs4 : List Int32) (ln i : Nat) (hch : (ch, ArrC Z .char (cs4.map .int)) ∈ P) (h4 : cs4.length = 3) (hln : ln ≤ 3) (hi : i ≤ ln) :
    Con kn l Z EL0 (⟨"com/example/recaller/recaller/LexerAcceptPinLaw", "skip", "([CII)I"⟩ : MethodName) method_4_code 4 (some .int) [] ({ frames := 1, cells := 0, slots := 0, locals := 14 } : Room) #[.ref ch, .int ln.toInt32, .int i.toInt32] O P (fun v O' P' => v = some (.int (it (cs4.take ln) 3 i).toInt32) ∧ O = O' ∧ P = P') := by
  obtain ⟨hw, hs0, hEL, hS, ⟨cs0, hC0, hcs0⟩, ⟨fv, hFv, hfv⟩, hAD, hHI, hLO⟩ := id E0
  refine con_intro (plainFor_of_name pn_6) hEL (fun m => ef_skp m _ _ _) ?_
  intro p e s m below meth c T W hnm
  have hl : (cs4.take ln).length = ln := by rw [List.length_take]; omega
  have hb1 := st_le (cs := cs4.take ln) (i := i) (by omega)
  have hb2 := st_le hb1
  refine g_aloadN W d26_0 (q := 1) rfl rfl rfl ?_
  refine g_iloadN W d26_1 (q := 2) rfl rfl ?_
  refine g_iloadN W d26_2 (q := 3) rfl rfl ?_
  refine g_static W (con_stp l Z a0 E0 O P ch cs4 ln (i) hch h4 hln (by omega)) (argsL := [(.ref ch), (.int ln.toInt32), (.int i.toInt32)]) (rest := []) rfl rfl pd_17 rfl (own_w hw 68 rfl) (own_w hw 69 rfl) (own_w hw 3 rfl) (own_w hw 70 rfl) (by decide) d26_3 (q := 6) rfl rfl (Nat.le_of_ble_eq_true rfl) (Nat.le_of_ble_eq_true rfl) (Nat.le_of_ble_eq_true rfl) (Nat.le_of_ble_eq_true rfl) ?_
  rintro _ _ _ T ⟨rfl, rfl, rfl⟩ W
  refine g_istoreN W d26_6 (q := 7) (L' := #[.val (.ref ch), .val (.int ln.toInt32), .val (.int i.toInt32), .val (.int (st (cs4.take ln) (i)).toInt32)]) rfl rfl ?_
  refine g_aloadN W d26_7 (q := 8) rfl rfl rfl ?_
  refine g_iloadN W d26_8 (q := 9) rfl rfl ?_
  refine g_iloadN W d26_9 (q := 10) rfl rfl ?_
  refine g_static W (con_stp l Z a0 E0 O P ch cs4 ln (st (cs4.take ln) (i)) hch h4 hln (by omega)) (argsL := [(.ref ch), (.int ln.toInt32), (.int (st (cs4.take ln) (i)).toInt32)]) (rest := []) rfl rfl pd_17 rfl (own_w hw 68 rfl) (own_w hw 69 rfl) (own_w hw 3 rfl) (own_w hw 70 rfl) (by decide) d26_10 (q := 13) rfl rfl (Nat.le_of_ble_eq_true rfl) (Nat.le_of_ble_eq_true rfl) (Nat.le_of_ble_eq_true rfl) (Nat.le_of_ble_eq_true rfl) ?_
  rintro _ _ _ T ⟨rfl, rfl, rfl⟩ W
  refine g_istoreN W d26_13 (q := 14) (L' := #[.val (.ref ch), .val (.int ln.toInt32), .val (.int i.toInt32), .val (.int (st (cs4.take ln) (st (cs4.take ln) (i))).toInt32)]) rfl rfl ?_
  refine g_aloadN W d26_14 (q := 15) rfl rfl rfl ?_
  refine g_iloadN W d26_15 (q := 16) rfl rfl ?_
  refine g_iloadN W d26_16 (q := 17) rfl rfl ?_
  refine g_static W (con_stp l Z a0 E0 O P ch cs4 ln (st (cs4.take ln) (st (cs4.take ln) (i))) hch h4 hln (by omega)) (argsL := [(.ref ch), (.int ln.toInt32), (.int (st (cs4.take ln) (st (cs4.take ln) (i))).toInt32)]) (rest := []) rfl rfl pd_17 rfl (own_w hw 68 rfl) (own_w hw 69 rfl) (own_w hw 3 rfl) (own_w hw 70 rfl) (by decide) d26_17 (q := 20) rfl rfl (Nat.le_of_ble_eq_true rfl) (Nat.le_of_ble_eq_true rfl) (Nat.le_of_ble_eq_true rfl) (Nat.le_of_ble_eq_true rfl) ?_
  rintro _ _ _ T ⟨rfl, rfl, rfl⟩ W
  refine g_istoreN W d26_20 (q := 21) (L' := #[.val (.ref ch), .val (.int ln.toInt32), .val (.int i.toInt32), .val (.int (st (cs4.take ln) (st (cs4.take ln) (st (cs4.take ln) (i)))).toInt32)]) rfl rfl ?_
  refine g_iloadN W d26_21 (q := 22) rfl rfl ?_
  exact g_retI W rfl (Or.inl rfl) rfl d26_22 (Nat.le_of_ble_eq_true rfl) (Nat.le_of_ble_eq_true rfl) ⟨rfl, rfl, rfl⟩
theorem ef_law (m : MethodId) (x0 x1 x2 x3 x4 x5 : Int32) : entryFrame m #[(.int x0), (.int x1), (.int x2), (.int x3), (.int x4), (.int x5)] maxLocals = mkF m 0 #[.val (.int x0), .val (.int x1), .val (.int x2), .val (.int x3), .val (.int x4), .val (.int x5), .unset, .unset, .unset, .unset, .unset, .unset, .unset, .unset, .unset, .unset, .unset, .unset, .unset, .unset, .unset, .unset] [] := by first | (simp [entryFrame, mkF, argsToLocals, Value.category, maxLocals]; done) | rfl
set_option maxRecDepth 65536 in
set_option maxHeartbeats 40000000 in
theorem law_304 {kn : Prop} {p : Program} {l : Launch} {e : Env} {s : State} {m : MethodId} {args : Array Value} {below : List Frame} {meth : Method} {c : Code} {Z : State} {a0 : Array Value} {P : List Ent} (E0 : Env0 Z a0) {x0 x1 x2 x3 x4 x5 ca cb : Int32} {ch : Addr} {cs4 : List Int32} {ln : Nat} (hch : (ch, ArrC Z .char (cs4.map .int)) ∈ P) (h4 : cs4.length = 3) (hln : ln ≤ 3) (hc4 : ∀ d ∈ cs4, 0 ≤ d.toInt ∧ d.toInt < 65536) {lx tx lb : Addr} {z r1 r2 : Int32} {p1 p2 s2 : Nat} (hp1 : p1 ≤ ln) (es2 : s2 = it (cs4.take ln) 3 p1) (hr2 : ((cs4.take ln)[s2]? = some cb ∧ r2 = 1 ∧ p2 = s2 + 1) ∨ (¬ (cs4.take ln)[s2]? = some cb ∧ r2 = 0 ∧ s2 = p2)) {s10 s16 : Slot} {k n : Nat} (hk : k ≤ 24) (hn : n ≤ 2176) (T : State) (W : Wk kn p l e room_1 s m args below meth c code maxLocals ret Z a0 EL0 "com/example/recaller/recaller/LexerAcceptPinLaw" T [(lx, ObjC Z "com/example/recaller/recaller/Lexer" shLx [.ref tx, .ref lb, .int z])] P k n) : Go p e below s room_1 Z EL0 (fun v O' P' => v = some (.int (1 : Int32))) T (mkF m 304 #[.val (.int x0), .val (.int x1), .val (.int x2), .val (.int x3), .val (.int x4), .val (.int x5), .val (.int ca), .val (.int cb), .val (.int ln.toInt32), .val (.ref ch), s10, .val (.ref lx), .val (.int r1), .val (.int p1.toInt32), .val (.int r2), .val (.int p2.toInt32), s16, .val (.int r1), .val (.int p1.toInt32), .unset, .unset, .unset] []) := by
  obtain ⟨hw, hs0, hEL, hS, ⟨cs0, hC0, hcs0⟩, ⟨fv, hFv, hfv⟩, hAD, hHI, hLO⟩ := id E0
  have hcs : ∀ d ∈ cs4.take ln, 0 ≤ d.toInt ∧ d.toInt < 65536 := fun d hd => hc4 d (List.mem_of_mem_take hd)
  have hl : (cs4.take ln).length = ln := by rw [List.length_take]; omega
  refine g_aload W at_304 (q := 306) rfl rfl rfl ?_
  refine g_iload W at_306 (q := 308) rfl rfl ?_
  refine g_iload W at_308 (q := 310) rfl rfl ?_
  refine g_static W (con_skp l Z a0 E0 _ P ch cs4 ln p1 hch h4 hln (by omega)) (argsL := [(.ref ch), (.int ln.toInt32), (.int p1.toInt32)]) (rest := []) rfl rfl pd_17 rfl (own_w hw 65 rfl) (own_w hw 66 rfl) (own_w hw 3 rfl) (own_w hw 67 rfl) (by decide) at_310 (q := 313) rfl rfl (Nat.le_of_ble_eq_true rfl) (Nat.le_of_ble_eq_true rfl) (by simp only [room_1]; omega) (by simp only [room_1]; omega) ?_
  rintro _ _ _ T ⟨rfl, rfl, rfl⟩ W
  rw [← es2]
  have hsl : s2 ≤ ln := by { have := it_le (cs := cs4.take ln) 3 p1 (by omega); omega }
  refine g_istore W at_313 (q := 315) (L' := #[.val (.int x0), .val (.int x1), .val (.int x2), .val (.int x3), .val (.int x4), .val (.int x5), .val (.int ca), .val (.int cb), .val (.int ln.toInt32), .val (.ref ch), s10, .val (.ref lx), .val (.int r1), .val (.int p1.toInt32), .val (.int r2), .val (.int p2.toInt32), s16, .val (.int r1), .val (.int p1.toInt32), .val (.int s2.toInt32), .unset, .unset]) rfl rfl ?_
  refine g_iload W at_315 (q := 317) rfl rfl ?_
  refine g_iload W at_317 (q := 319) rfl rfl ?_
  rcases hr2 with ⟨ha, rfl, rfl⟩ | ⟨ha, rfl, rfl⟩
  · have hlt : s2 < ln := by { have := (List.getElem?_eq_some_iff.mp ha).1; omega }
    have hd4 : cs4[s2]? = some cb := by rw [← ha, List.getElem?_take_of_lt hlt]
    refine g_icN W at_319 (q := 322) (XT.ii_ge_f ((own_lt (by omega) (by omega)).mpr hlt)) rfl ?_
    refine g_aload W at_322 (q := 324) rfl rfl rfl ?_
    refine g_iload W at_324 (q := 326) rfl rfl ?_
    refine g_caload W (W.rd hch) (own_nn (by omega)) (i := s2) (own_clamp (by omega)) (v := .int cb) (by rw [List.getElem?_map, hd4]; rfl) at_326 (q := 327) rfl ?_
    refine g_iload W at_327 (q := 329) rfl rfl ?_
    refine g_icN W at_329 (q := 332) (XT.ii_ne_f rfl) rfl ?_
    refine g_iconst W (v := (1 : Int32)) at_332 (q := 333) rfl rfl ?_
    refine g_goto W at_333 (q := 337) (by decide) (by decide) ?_
    refine g_istore W at_337 (q := 339) (L' := #[.val (.int x0), .val (.int x1), .val (.int x2), .val (.int x3), .val (.int x4), .val (.int x5), .val (.int ca), .val (.int cb), .val (.int ln.toInt32), .val (.ref ch), s10, .val (.ref lx), .val (.int r1), .val (.int p1.toInt32), .val (.int (1 : Int32)), .val (.int (s2 + 1).toInt32), s16, .val (.int r1), .val (.int p1.toInt32), .val (.int s2.toInt32), .val (.int (1 : Int32)), .unset]) rfl rfl ?_
    refine g_iload W at_339 (q := 341) rfl rfl ?_
    refine g_ifN W at_341 (q := 344) (XT.i0_eq_f (by decide)) rfl ?_
    refine g_iload W at_344 (q := 346) rfl rfl ?_
    refine g_iconst W (v := (1 : Int32)) at_346 (q := 347) rfl rfl ?_
    refine g_iadd W at_347 (q := 348) (z := (s2 + 1).toInt32) (own_succ (by omega)) rfl ?_
    refine g_goto W at_348 (q := 353) (by decide) (by decide) ?_
    refine g_istore W at_353 (q := 355) (L' := #[.val (.int x0), .val (.int x1), .val (.int x2), .val (.int x3), .val (.int x4), .val (.int x5), .val (.int ca), .val (.int cb), .val (.int ln.toInt32), .val (.ref ch), s10, .val (.ref lx), .val (.int r1), .val (.int p1.toInt32), .val (.int (1 : Int32)), .val (.int (s2 + 1).toInt32), s16, .val (.int r1), .val (.int p1.toInt32), .val (.int s2.toInt32), .val (.int (1 : Int32)), .val (.int (s2 + 1).toInt32)]) rfl rfl ?_
    refine g_iload W at_355 (q := 357) rfl rfl ?_
    refine g_iload W at_357 (q := 359) rfl rfl ?_
    refine g_icN W at_359 (q := 362) (XT.ii_ne_f rfl) rfl ?_
    refine g_iload W at_362 (q := 364) rfl rfl ?_
    refine g_iload W at_364 (q := 366) rfl rfl ?_
    refine g_icN W at_366 (q := 369) (XT.ii_ne_f rfl) rfl ?_
    refine g_iload W at_369 (q := 371) rfl rfl ?_
    refine g_iload W at_371 (q := 373) rfl rfl ?_
    refine g_icN W at_373 (q := 376) (XT.ii_ne_f (by decide)) rfl ?_
    refine g_iload W at_376 (q := 378) rfl rfl ?_
    refine g_iload W at_378 (q := 380) rfl rfl ?_
    refine g_icN W at_380 (q := 383) (XT.ii_ne_f rfl) rfl ?_
    refine g_iconst W (v := (1 : Int32)) at_383 (q := 384) rfl rfl ?_
    refine g_goto W at_384 (q := 388) (by decide) (by decide) ?_
    exact g_retI W rfl (Or.inr (Or.inl rfl)) rfl at_388 (by simp only [room_1]; omega) (by simp only [room_1]; omega) rfl
  · by_cases hlt : s2 < ln
    · obtain ⟨d, hd⟩ : ∃ d, cs4[s2]? = some d := ⟨_, List.getElem?_eq_getElem (by omega)⟩
      have hne : ¬ d = cb := fun e => ha (by rw [List.getElem?_take_of_lt hlt, hd, e])
      refine g_icN W at_319 (q := 322) (XT.ii_ge_f ((own_lt (by omega) (by omega)).mpr hlt)) rfl ?_
      refine g_aload W at_322 (q := 324) rfl rfl rfl ?_
      refine g_iload W at_324 (q := 326) rfl rfl ?_
      refine g_caload W (W.rd hch) (own_nn (by omega)) (i := s2) (own_clamp (by omega)) (v := .int d) (by rw [List.getElem?_map, hd]; rfl) at_326 (q := 327) rfl ?_
      refine g_iload W at_327 (q := 329) rfl rfl ?_
      refine g_icY W at_329 (q := 336) (XT.ii_ne_t hne) (by decide) (by decide) ?_
      refine g_iconst W (v := (0 : Int32)) at_336 (q := 337) rfl rfl ?_
      refine g_istore W at_337 (q := 339) (L' := #[.val (.int x0), .val (.int x1), .val (.int x2), .val (.int x3), .val (.int x4), .val (.int x5), .val (.int ca), .val (.int cb), .val (.int ln.toInt32), .val (.ref ch), s10, .val (.ref lx), .val (.int r1), .val (.int p1.toInt32), .val (.int (0 : Int32)), .val (.int s2.toInt32), s16, .val (.int r1), .val (.int p1.toInt32), .val (.int s2.toInt32), .val (.int (0 : Int32)), .unset]) rfl rfl ?_
      refine g_iload W at_339 (q := 341) rfl rfl ?_
      refine g_ifY W at_341 (q := 351) (XT.i0_eq_t (by decide)) (by decide) (by decide) ?_
      refine g_iload W at_351 (q := 353) rfl rfl ?_
      refine g_istore W at_353 (q := 355) (L' := #[.val (.int x0), .val (.int x1), .val (.int x2), .val (.int x3), .val (.int x4), .val (.int x5), .val (.int ca), .val (.int cb), .val (.int ln.toInt32), .val (.ref ch), s10, .val (.ref lx), .val (.int r1), .val (.int p1.toInt32), .val (.int (0 : Int32)), .val (.int s2.toInt32), s16, .val (.int r1), .val (.int p1.toInt32), .val (.int s2.toInt32), .val (.int (0 : Int32)), .val (.int s2.toInt32)]) rfl rfl ?_
      refine g_iload W at_355 (q := 357) rfl rfl ?_
      refine g_iload W at_357 (q := 359) rfl rfl ?_
      refine g_icN W at_359 (q := 362) (XT.ii_ne_f rfl) rfl ?_
      refine g_iload W at_362 (q := 364) rfl rfl ?_
      refine g_iload W at_364 (q := 366) rfl rfl ?_
      refine g_icN W at_366 (q := 369) (XT.ii_ne_f rfl) rfl ?_
      refine g_iload W at_369 (q := 371) rfl rfl ?_
      refine g_iload W at_371 (q := 373) rfl rfl ?_
      refine g_icN W at_373 (q := 376) (XT.ii_ne_f (by decide)) rfl ?_
      refine g_iload W at_376 (q := 378) rfl rfl ?_
      refine g_iload W at_378 (q := 380) rfl rfl ?_
      refine g_icN W at_380 (q := 383) (XT.ii_ne_f rfl) rfl ?_
      refine g_iconst W (v := (1 : Int32)) at_383 (q := 384) rfl rfl ?_
      refine g_goto W at_384 (q := 388) (by decide) (by decide) ?_
      exact g_retI W rfl (Or.inr (Or.inl rfl)) rfl at_388 (by simp only [room_1]; omega) (by simp only [room_1]; omega) rfl
    · refine g_icY W at_319 (q := 336) (XT.ii_ge_t (fun z => hlt ((own_lt (by omega) (by omega)).mp z))) (by decide) (by decide) ?_
      refine g_iconst W (v := (0 : Int32)) at_336 (q := 337) rfl rfl ?_
      refine g_istore W at_337 (q := 339) (L' := #[.val (.int x0), .val (.int x1), .val (.int x2), .val (.int x3), .val (.int x4), .val (.int x5), .val (.int ca), .val (.int cb), .val (.int ln.toInt32), .val (.ref ch), s10, .val (.ref lx), .val (.int r1), .val (.int p1.toInt32), .val (.int (0 : Int32)), .val (.int s2.toInt32), s16, .val (.int r1), .val (.int p1.toInt32), .val (.int s2.toInt32), .val (.int (0 : Int32)), .unset]) rfl rfl ?_
      refine g_iload W at_339 (q := 341) rfl rfl ?_
      refine g_ifY W at_341 (q := 351) (XT.i0_eq_t (by decide)) (by decide) (by decide) ?_
      refine g_iload W at_351 (q := 353) rfl rfl ?_
      refine g_istore W at_353 (q := 355) (L' := #[.val (.int x0), .val (.int x1), .val (.int x2), .val (.int x3), .val (.int x4), .val (.int x5), .val (.int ca), .val (.int cb), .val (.int ln.toInt32), .val (.ref ch), s10, .val (.ref lx), .val (.int r1), .val (.int p1.toInt32), .val (.int (0 : Int32)), .val (.int s2.toInt32), s16, .val (.int r1), .val (.int p1.toInt32), .val (.int s2.toInt32), .val (.int (0 : Int32)), .val (.int s2.toInt32)]) rfl rfl ?_
      refine g_iload W at_355 (q := 357) rfl rfl ?_
      refine g_iload W at_357 (q := 359) rfl rfl ?_
      refine g_icN W at_359 (q := 362) (XT.ii_ne_f rfl) rfl ?_
      refine g_iload W at_362 (q := 364) rfl rfl ?_
      refine g_iload W at_364 (q := 366) rfl rfl ?_
      refine g_icN W at_366 (q := 369) (XT.ii_ne_f rfl) rfl ?_
      refine g_iload W at_369 (q := 371) rfl rfl ?_
      refine g_iload W at_371 (q := 373) rfl rfl ?_
      refine g_icN W at_373 (q := 376) (XT.ii_ne_f (by decide)) rfl ?_
      refine g_iload W at_376 (q := 378) rfl rfl ?_
      refine g_iload W at_378 (q := 380) rfl rfl ?_
      refine g_icN W at_380 (q := 383) (XT.ii_ne_f rfl) rfl ?_
      refine g_iconst W (v := (1 : Int32)) at_383 (q := 384) rfl rfl ?_
      refine g_goto W at_384 (q := 388) (by decide) (by decide) ?_
      exact g_retI W rfl (Or.inr (Or.inl rfl)) rfl at_388 (by simp only [room_1]; omega) (by simp only [room_1]; omega) rfl
set_option maxRecDepth 65536 in
set_option maxHeartbeats 40000000 in
theorem law_254 {kn : Prop} {p : Program} {l : Launch} {e : Env} {s : State} {m : MethodId} {args : Array Value} {below : List Frame} {meth : Method} {c : Code} {Z : State} {a0 : Array Value} {P : List Ent} (E0 : Env0 Z a0) {x0 x1 x2 x3 x4 x5 ca cb : Int32} {ch : Addr} {cs4 : List Int32} {ln : Nat} (hch : (ch, ArrC Z .char (cs4.map .int)) ∈ P) (h4 : cs4.length = 3) (hln : ln ≤ 3) (hc4 : ∀ d ∈ cs4, 0 ≤ d.toInt ∧ d.toInt < 65536) {lx tx lb : Addr} {z r1 r2 : Int32} {p1 p2 s1 s2 : Nat} (hp1 : p1 ≤ ln) (es1 : s1 = it (cs4.take ln) 3 0) (hr1 : ((cs4.take ln)[s1]? = some ca ∧ r1 = 1 ∧ p1 = s1 + 1) ∨ (¬ (cs4.take ln)[s1]? = some ca ∧ r1 = 0 ∧ s1 = p1)) (es2 : s2 = it (cs4.take ln) 3 p1) (hr2 : ((cs4.take ln)[s2]? = some cb ∧ r2 = 1 ∧ p2 = s2 + 1) ∨ (¬ (cs4.take ln)[s2]? = some cb ∧ r2 = 0 ∧ s2 = p2)) {s10 : Slot} {k n : Nat} (hk : k ≤ 24) (hn : n ≤ 2176) (T : State) (W : Wk kn p l e room_1 s m args below meth c code maxLocals ret Z a0 EL0 "com/example/recaller/recaller/LexerAcceptPinLaw" T [(lx, ObjC Z "com/example/recaller/recaller/Lexer" shLx [.ref tx, .ref lb, .int z])] P k n) : Go p e below s room_1 Z EL0 (fun v O' P' => v = some (.int (1 : Int32))) T (mkF m 254 #[.val (.int x0), .val (.int x1), .val (.int x2), .val (.int x3), .val (.int x4), .val (.int x5), .val (.int ca), .val (.int cb), .val (.int ln.toInt32), .val (.ref ch), s10, .val (.ref lx), .val (.int r1), .val (.int p1.toInt32), .val (.int r2), .val (.int p2.toInt32), .unset, .unset, .unset, .unset, .unset, .unset] []) := by
  obtain ⟨hw, hs0, hEL, hS, ⟨cs0, hC0, hcs0⟩, ⟨fv, hFv, hfv⟩, hAD, hHI, hLO⟩ := id E0
  have hcs : ∀ d ∈ cs4.take ln, 0 ≤ d.toInt ∧ d.toInt < 65536 := fun d hd => hc4 d (List.mem_of_mem_take hd)
  have hl : (cs4.take ln).length = ln := by rw [List.length_take]; omega
  refine g_aload W at_254 (q := 256) rfl rfl rfl ?_
  refine g_iload W at_256 (q := 258) rfl rfl ?_
  refine g_iconst W (v := (0 : Int32)) at_258 (q := 259) rfl rfl ?_
  refine g_static W (con_skp l Z a0 E0 _ P ch cs4 ln 0 hch h4 hln (by omega)) (argsL := [(.ref ch), (.int ln.toInt32), (.int (0 : Int32))]) (rest := []) rfl rfl pd_17 rfl (own_w hw 65 rfl) (own_w hw 66 rfl) (own_w hw 3 rfl) (own_w hw 67 rfl) (by decide) at_259 (q := 262) rfl rfl (Nat.le_of_ble_eq_true rfl) (Nat.le_of_ble_eq_true rfl) (by simp only [room_1]; omega) (by simp only [room_1]; omega) ?_
  rintro _ _ _ T ⟨rfl, rfl, rfl⟩ W
  rw [← es1]
  have hsl : s1 ≤ ln := by { have := it_le (cs := cs4.take ln) 3 0 (by omega); omega }
  refine g_istore W at_262 (q := 264) (L' := #[.val (.int x0), .val (.int x1), .val (.int x2), .val (.int x3), .val (.int x4), .val (.int x5), .val (.int ca), .val (.int cb), .val (.int ln.toInt32), .val (.ref ch), s10, .val (.ref lx), .val (.int r1), .val (.int p1.toInt32), .val (.int r2), .val (.int p2.toInt32), .val (.int s1.toInt32), .unset, .unset, .unset, .unset, .unset]) rfl rfl ?_
  refine g_iload W at_264 (q := 266) rfl rfl ?_
  refine g_iload W at_266 (q := 268) rfl rfl ?_
  rcases hr1 with ⟨ha, rfl, rfl⟩ | ⟨ha, rfl, rfl⟩
  · have hlt : s1 < ln := by { have := (List.getElem?_eq_some_iff.mp ha).1; omega }
    have hd4 : cs4[s1]? = some ca := by rw [← ha, List.getElem?_take_of_lt hlt]
    refine g_icN W at_268 (q := 271) (XT.ii_ge_f ((own_lt (by omega) (by omega)).mpr hlt)) rfl ?_
    refine g_aload W at_271 (q := 273) rfl rfl rfl ?_
    refine g_iload W at_273 (q := 275) rfl rfl ?_
    refine g_caload W (W.rd hch) (own_nn (by omega)) (i := s1) (own_clamp (by omega)) (v := .int ca) (by rw [List.getElem?_map, hd4]; rfl) at_275 (q := 276) rfl ?_
    refine g_iload W at_276 (q := 278) rfl rfl ?_
    refine g_icN W at_278 (q := 281) (XT.ii_ne_f rfl) rfl ?_
    refine g_iconst W (v := (1 : Int32)) at_281 (q := 282) rfl rfl ?_
    refine g_goto W at_282 (q := 286) (by decide) (by decide) ?_
    refine g_istore W at_286 (q := 288) (L' := #[.val (.int x0), .val (.int x1), .val (.int x2), .val (.int x3), .val (.int x4), .val (.int x5), .val (.int ca), .val (.int cb), .val (.int ln.toInt32), .val (.ref ch), s10, .val (.ref lx), .val (.int (1 : Int32)), .val (.int (s1 + 1).toInt32), .val (.int r2), .val (.int p2.toInt32), .val (.int s1.toInt32), .val (.int (1 : Int32)), .unset, .unset, .unset, .unset]) rfl rfl ?_
    refine g_iload W at_288 (q := 290) rfl rfl ?_
    refine g_ifN W at_290 (q := 293) (XT.i0_eq_f (by decide)) rfl ?_
    refine g_iload W at_293 (q := 295) rfl rfl ?_
    refine g_iconst W (v := (1 : Int32)) at_295 (q := 296) rfl rfl ?_
    refine g_iadd W at_296 (q := 297) (z := (s1 + 1).toInt32) (own_succ (by omega)) rfl ?_
    refine g_goto W at_297 (q := 302) (by decide) (by decide) ?_
    refine g_istore W at_302 (q := 304) (L' := #[.val (.int x0), .val (.int x1), .val (.int x2), .val (.int x3), .val (.int x4), .val (.int x5), .val (.int ca), .val (.int cb), .val (.int ln.toInt32), .val (.ref ch), s10, .val (.ref lx), .val (.int (1 : Int32)), .val (.int (s1 + 1).toInt32), .val (.int r2), .val (.int p2.toInt32), .val (.int s1.toInt32), .val (.int (1 : Int32)), .val (.int (s1 + 1).toInt32), .unset, .unset, .unset]) rfl rfl ?_
    exact law_304 E0 hch h4 hln hc4 hp1 es2 hr2 (by dsimp only; omega) (by dsimp only; omega) T W
  · by_cases hlt : s1 < ln
    · obtain ⟨d, hd⟩ : ∃ d, cs4[s1]? = some d := ⟨_, List.getElem?_eq_getElem (by omega)⟩
      have hne : ¬ d = ca := fun e => ha (by rw [List.getElem?_take_of_lt hlt, hd, e])
      refine g_icN W at_268 (q := 271) (XT.ii_ge_f ((own_lt (by omega) (by omega)).mpr hlt)) rfl ?_
      refine g_aload W at_271 (q := 273) rfl rfl rfl ?_
      refine g_iload W at_273 (q := 275) rfl rfl ?_
      refine g_caload W (W.rd hch) (own_nn (by omega)) (i := s1) (own_clamp (by omega)) (v := .int d) (by rw [List.getElem?_map, hd]; rfl) at_275 (q := 276) rfl ?_
      refine g_iload W at_276 (q := 278) rfl rfl ?_
      refine g_icY W at_278 (q := 285) (XT.ii_ne_t hne) (by decide) (by decide) ?_
      refine g_iconst W (v := (0 : Int32)) at_285 (q := 286) rfl rfl ?_
      refine g_istore W at_286 (q := 288) (L' := #[.val (.int x0), .val (.int x1), .val (.int x2), .val (.int x3), .val (.int x4), .val (.int x5), .val (.int ca), .val (.int cb), .val (.int ln.toInt32), .val (.ref ch), s10, .val (.ref lx), .val (.int (0 : Int32)), .val (.int s1.toInt32), .val (.int r2), .val (.int p2.toInt32), .val (.int s1.toInt32), .val (.int (0 : Int32)), .unset, .unset, .unset, .unset]) rfl rfl ?_
      refine g_iload W at_288 (q := 290) rfl rfl ?_
      refine g_ifY W at_290 (q := 300) (XT.i0_eq_t (by decide)) (by decide) (by decide) ?_
      refine g_iload W at_300 (q := 302) rfl rfl ?_
      refine g_istore W at_302 (q := 304) (L' := #[.val (.int x0), .val (.int x1), .val (.int x2), .val (.int x3), .val (.int x4), .val (.int x5), .val (.int ca), .val (.int cb), .val (.int ln.toInt32), .val (.ref ch), s10, .val (.ref lx), .val (.int (0 : Int32)), .val (.int s1.toInt32), .val (.int r2), .val (.int p2.toInt32), .val (.int s1.toInt32), .val (.int (0 : Int32)), .val (.int s1.toInt32), .unset, .unset, .unset]) rfl rfl ?_
      exact law_304 E0 hch h4 hln hc4 hp1 es2 hr2 (by dsimp only; omega) (by dsimp only; omega) T W
    · refine g_icY W at_268 (q := 285) (XT.ii_ge_t (fun z => hlt ((own_lt (by omega) (by omega)).mp z))) (by decide) (by decide) ?_
      refine g_iconst W (v := (0 : Int32)) at_285 (q := 286) rfl rfl ?_
      refine g_istore W at_286 (q := 288) (L' := #[.val (.int x0), .val (.int x1), .val (.int x2), .val (.int x3), .val (.int x4), .val (.int x5), .val (.int ca), .val (.int cb), .val (.int ln.toInt32), .val (.ref ch), s10, .val (.ref lx), .val (.int (0 : Int32)), .val (.int s1.toInt32), .val (.int r2), .val (.int p2.toInt32), .val (.int s1.toInt32), .val (.int (0 : Int32)), .unset, .unset, .unset, .unset]) rfl rfl ?_
      refine g_iload W at_288 (q := 290) rfl rfl ?_
      refine g_ifY W at_290 (q := 300) (XT.i0_eq_t (by decide)) (by decide) (by decide) ?_
      refine g_iload W at_300 (q := 302) rfl rfl ?_
      refine g_istore W at_302 (q := 304) (L' := #[.val (.int x0), .val (.int x1), .val (.int x2), .val (.int x3), .val (.int x4), .val (.int x5), .val (.int ca), .val (.int cb), .val (.int ln.toInt32), .val (.ref ch), s10, .val (.ref lx), .val (.int (0 : Int32)), .val (.int s1.toInt32), .val (.int r2), .val (.int p2.toInt32), .val (.int s1.toInt32), .val (.int (0 : Int32)), .val (.int s1.toInt32), .unset, .unset, .unset]) rfl rfl ?_
      exact law_304 E0 hch h4 hln hc4 hp1 es2 hr2 (by dsimp only; omega) (by dsimp only; omega) T W
theorem pd_18 : parseMethodDescriptor "(Ljava/lang/String;Ljava/lang/String;)V" = some ⟨[(.object "java/lang/String"), (.object "java/lang/String")], none⟩ := by decide +kernel
theorem pd_19 : parseMethodDescriptor "(C)Z" = some ⟨[.char], (some .boolean)⟩ := by decide +kernel
set_option maxRecDepth 65536 in
set_option maxHeartbeats 40000000 in
theorem law_209 {kn : Prop} {p : Program} {l : Launch} {e : Env} {s : State} {m : MethodId} {args : Array Value} {below : List Frame} {meth : Method} {c : Code} {Z : State} {a0 : Array Value} {P : List Ent} (E0 : Env0 Z a0) {x0 x1 x2 x3 x4 x5 ca cb : Int32} {ch : Addr} {cs4 : List Int32} {ln : Nat} (hch : (ch, ArrC Z .char (cs4.map .int)) ∈ P) (h4 : cs4.length = 3) (hln : ln ≤ 3) (hc4 : ∀ d ∈ cs4, 0 ≤ d.toInt ∧ d.toInt < 65536) {tx : Addr} (hs : IsStr Z P tx (cs4.take ln)) {s11 : Slot} (h11 : One s11) {k n : Nat} (hk : k ≤ 16) (hn : n ≤ 1000) (T : State) (W : Wk kn p l e room_1 s m args below meth c code maxLocals ret Z a0 EL0 "com/example/recaller/recaller/LexerAcceptPinLaw" T [] P k n) : Go p e below s room_1 Z EL0 (fun v O' P' => v = some (.int (1 : Int32))) T (mkF m 209 #[.val (.int x0), .val (.int x1), .val (.int x2), .val (.int x3), .val (.int x4), .val (.int x5), .val (.int ca), .val (.int cb), .val (.int ln.toInt32), .val (.ref ch), .val (.ref tx), s11, .unset, .unset, .unset, .unset, .unset, .unset, .unset, .unset, .unset, .unset] []) := by
  obtain ⟨hw, hs0, hEL, hS, ⟨cs0, hC0, hcs0⟩, ⟨fv, hFv, hfv⟩, hAD, hHI, hLO⟩ := id E0
  have hcs : ∀ d ∈ cs4.take ln, 0 ≤ d.toInt ∧ d.toInt < 65536 := fun d hd => hc4 d (List.mem_of_mem_take hd)
  have hl : (cs4.take ln).length = ln := by rw [List.length_take]; omega
  refine g_new W (shLx_ok hw) shLx_ds (own_w hw 26 rfl) (own_w hw 27 rfl) (own_w hw 28 rfl) at_209 (q := 212) rfl (by simp only [room_1]; omega) (by simp only [room_1]; omega) fun lx T W => ?_
  refine g_dup W at_212 (q := 213) rfl rfl ?_
  refine g_aload W at_213 (q := 215) rfl rfl rfl ?_
  refine g_ldcO W (own_w hw 29 rfl) hS at_215 (q := 217) rfl (nn := 4) (by decide +kernel) (Nat.le_of_ble_eq_true rfl) (by simp only [room_1]; omega) (by simp only [room_1]; omega) fun lb T W => ?_
  refine g_special W (con_lxI l Z a0 E0 _ _ lx tx lb) (argsL := [(.ref tx), (.ref lb)]) (rest := [(.ref lx)]) rfl rfl rfl pd_18 rfl (own_w hw 30 rfl) (own_w hw 31 rfl) (own_w hw 28 rfl) (own_w hw 32 rfl) (by decide) at_217 (q := 220) rfl rfl (Nat.le_of_ble_eq_true rfl) (Nat.le_of_ble_eq_true rfl) (by simp only [room_1]; omega) (by simp only [room_1]; omega) ?_
  rintro _ _ _ T ⟨rfl, rfl, rfl⟩ W
  refine g_astore W at_220 (q := 222) (L' := #[.val (.int x0), .val (.int x1), .val (.int x2), .val (.int x3), .val (.int x4), .val (.int x5), .val (.int ca), .val (.int cb), .val (.int ln.toInt32), .val (.ref ch), .val (.ref tx), .val (.ref lx), .unset, .unset, .unset, .unset, .unset, .unset, .unset, .unset, .unset, .unset]) rfl (XS.store1 rfl h11 rfl) rfl ?_
  refine g_aload W at_222 (q := 224) rfl rfl rfl ?_
  refine g_iload W at_224 (q := 226) rfl rfl ?_
  have e1 : (it (cs4.take ln) ((cs4.take ln).length - 0) 0) = it (cs4.take ln) 3 0 := (it_eq (cs := cs4.take ln) 3 0 (by omega)).symm
  obtain ⟨s1, es1⟩ : ∃ r, r = it (cs4.take ln) 3 0 := ⟨_, rfl⟩
  have hs1 : s1 ≤ ln := by { have := it_le (cs := cs4.take ln) 3 0 (by omega); omega }
  obtain ⟨r1, er1⟩ : ∃ r, r = (if (cs4.take ln)[s1]? = some ca then (1 : Int32) else 0) := ⟨_, rfl⟩
  obtain ⟨p1, ep1⟩ : ∃ r, r = (if (cs4.take ln)[s1]? = some ca then s1 + 1 else s1) := ⟨_, rfl⟩
  have hr1 : ((cs4.take ln)[s1]? = some ca ∧ r1 = 1 ∧ p1 = s1 + 1) ∨ (¬ (cs4.take ln)[s1]? = some ca ∧ r1 = 0 ∧ s1 = p1) := by by_cases h : (cs4.take ln)[s1]? = some ca <;> simp [h, er1, ep1]
  have hp1 : p1 ≤ ln := by { rcases hr1 with ⟨ha, -, rfl⟩ | ⟨-, -, rfl⟩; { have := (List.getElem?_eq_some_iff.mp ha).1; omega }; exact hs1 }
  refine g_virtual W (con_acc l Z a0 E0 [] P lx tx lb _ 0 ca hs (by omega) hcs (by omega)) (own_ex (W.ow (i := 0) rfl) fun _ h => h.1) (argsL := [(.int ca)]) (rest := []) rfl rfl pd_19 rfl (own_w hw 38 rfl) (own_w hw 39 rfl) (own_w hw 41 rfl) (own_w hw 40 rfl) (own_w hw 28 rfl) (own_w hw 42 rfl) (by decide) at_226 (q := 229) rfl rfl (Nat.le_of_ble_eq_true rfl) (Nat.le_of_ble_eq_true rfl) (by simp only [room_1]; omega) (by simp only [room_1]; omega) ?_
  rintro _ _ _ T ⟨rfl, rfl, rfl⟩ W
  rw [e1, ← es1, ← ep1] at W
  rw [e1, ← es1, ← er1]
  refine g_istore W at_229 (q := 231) (L' := #[.val (.int x0), .val (.int x1), .val (.int x2), .val (.int x3), .val (.int x4), .val (.int x5), .val (.int ca), .val (.int cb), .val (.int ln.toInt32), .val (.ref ch), .val (.ref tx), .val (.ref lx), .val (.int r1), .unset, .unset, .unset, .unset, .unset, .unset, .unset, .unset, .unset]) rfl rfl ?_
  refine g_aload W at_231 (q := 233) rfl rfl rfl ?_
  refine g_virtual W (con_gp l Z a0 E0 [] P lx tx lb _) (own_ex (W.ow (i := 0) rfl) fun _ h => h.1) (argsL := []) (rest := []) rfl rfl pd_14 rfl (own_w hw 60 rfl) (own_w hw 61 rfl) (own_w hw 63 rfl) (own_w hw 62 rfl) (own_w hw 28 rfl) (own_w hw 64 rfl) (by decide) at_233 (q := 236) rfl rfl (Nat.le_of_ble_eq_true rfl) (Nat.le_of_ble_eq_true rfl) (by simp only [room_1]; omega) (by simp only [room_1]; omega) ?_
  rintro _ _ _ T ⟨rfl, rfl, rfl⟩ W
  refine g_istore W at_236 (q := 238) (L' := #[.val (.int x0), .val (.int x1), .val (.int x2), .val (.int x3), .val (.int x4), .val (.int x5), .val (.int ca), .val (.int cb), .val (.int ln.toInt32), .val (.ref ch), .val (.ref tx), .val (.ref lx), .val (.int r1), .val (.int p1.toInt32), .unset, .unset, .unset, .unset, .unset, .unset, .unset, .unset]) rfl rfl ?_
  refine g_aload W at_238 (q := 240) rfl rfl rfl ?_
  refine g_iload W at_240 (q := 242) rfl rfl ?_
  have e2 : (it (cs4.take ln) ((cs4.take ln).length - p1) p1) = it (cs4.take ln) 3 p1 := (it_eq (cs := cs4.take ln) 3 p1 (by omega)).symm
  obtain ⟨s2, es2⟩ : ∃ r, r = it (cs4.take ln) 3 p1 := ⟨_, rfl⟩
  have hs2 : s2 ≤ ln := by { have := it_le (cs := cs4.take ln) 3 p1 (by omega); omega }
  obtain ⟨r2, er2⟩ : ∃ r, r = (if (cs4.take ln)[s2]? = some cb then (1 : Int32) else 0) := ⟨_, rfl⟩
  obtain ⟨p2, ep2⟩ : ∃ r, r = (if (cs4.take ln)[s2]? = some cb then s2 + 1 else s2) := ⟨_, rfl⟩
  have hr2 : ((cs4.take ln)[s2]? = some cb ∧ r2 = 1 ∧ p2 = s2 + 1) ∨ (¬ (cs4.take ln)[s2]? = some cb ∧ r2 = 0 ∧ s2 = p2) := by by_cases h : (cs4.take ln)[s2]? = some cb <;> simp [h, er2, ep2]
  have hp2 : p2 ≤ ln := by { rcases hr2 with ⟨ha, -, rfl⟩ | ⟨-, -, rfl⟩; { have := (List.getElem?_eq_some_iff.mp ha).1; omega }; exact hs2 }
  refine g_virtual W (con_acc l Z a0 E0 [] P lx tx lb _ p1 cb hs (by omega) hcs (by omega)) (own_ex (W.ow (i := 0) rfl) fun _ h => h.1) (argsL := [(.int cb)]) (rest := []) rfl rfl pd_19 rfl (own_w hw 38 rfl) (own_w hw 39 rfl) (own_w hw 41 rfl) (own_w hw 40 rfl) (own_w hw 28 rfl) (own_w hw 42 rfl) (by decide) at_242 (q := 245) rfl rfl (Nat.le_of_ble_eq_true rfl) (Nat.le_of_ble_eq_true rfl) (by simp only [room_1]; omega) (by simp only [room_1]; omega) ?_
  rintro _ _ _ T ⟨rfl, rfl, rfl⟩ W
  rw [e2, ← es2, ← ep2] at W
  rw [e2, ← es2, ← er2]
  refine g_istore W at_245 (q := 247) (L' := #[.val (.int x0), .val (.int x1), .val (.int x2), .val (.int x3), .val (.int x4), .val (.int x5), .val (.int ca), .val (.int cb), .val (.int ln.toInt32), .val (.ref ch), .val (.ref tx), .val (.ref lx), .val (.int r1), .val (.int p1.toInt32), .val (.int r2), .unset, .unset, .unset, .unset, .unset, .unset, .unset]) rfl rfl ?_
  refine g_aload W at_247 (q := 249) rfl rfl rfl ?_
  refine g_virtual W (con_gp l Z a0 E0 [] P lx tx lb _) (own_ex (W.ow (i := 0) rfl) fun _ h => h.1) (argsL := []) (rest := []) rfl rfl pd_14 rfl (own_w hw 60 rfl) (own_w hw 61 rfl) (own_w hw 63 rfl) (own_w hw 62 rfl) (own_w hw 28 rfl) (own_w hw 64 rfl) (by decide) at_249 (q := 252) rfl rfl (Nat.le_of_ble_eq_true rfl) (Nat.le_of_ble_eq_true rfl) (by simp only [room_1]; omega) (by simp only [room_1]; omega) ?_
  rintro _ _ _ T ⟨rfl, rfl, rfl⟩ W
  refine g_istore W at_252 (q := 254) (L' := #[.val (.int x0), .val (.int x1), .val (.int x2), .val (.int x3), .val (.int x4), .val (.int x5), .val (.int ca), .val (.int cb), .val (.int ln.toInt32), .val (.ref ch), .val (.ref tx), .val (.ref lx), .val (.int r1), .val (.int p1.toInt32), .val (.int r2), .val (.int p2.toInt32), .unset, .unset, .unset, .unset, .unset, .unset]) rfl rfl ?_
  exact law_254 (tx := tx) (lb := lb) E0 hch h4 hln hc4 hp1 es1 hr1 es2 hr2 (by dsimp only; omega) (by dsimp only; omega) T W
theorem pd_20 : parseMethodDescriptor "(IICC)C" = some ⟨[.int, .int, .char, .char], (some .char)⟩ := by decide +kernel
theorem pd_21 : parseMethodDescriptor "([C)V" = some ⟨[(.array .char)], none⟩ := by decide +kernel
set_option maxRecDepth 65536 in
set_option maxHeartbeats 40000000 in
theorem con_law {kn : Prop} (l : Launch) (Z : State) (a0 : Array Value) (E0 : Env0 Z a0) (P : List Ent) (x0 x1 x2 x3 x4 x5 : Int32) :
    Con kn l Z EL0 x code maxLocals ret tables_1 room_1 #[.int x0, .int x1, .int x2, .int x3, .int x4, .int x5] [] P (fun v O' P' => v = some (.int (1 : Int32))) := by
  obtain ⟨hw, hs0, hEL, hS, ⟨cs0, hC0, hcs0⟩, ⟨fv, hFv, hfv⟩, hAD, hHI, hLO⟩ := id E0
  refine con_intro (plainFor_of_name pn_6) hEL (fun m => ef_law m _ _ _ _ _ _) ?_
  intro p e s m below meth c T W hnm
  obtain ⟨ca, hca, eca⟩ := own_c16' x4
  obtain ⟨cb, hcb, ecb⟩ := own_c16' x5
  obtain ⟨ln, hln, eln⟩ := own_and3 x0
  refine g_iload W at_0 (q := 2) rfl rfl ?_
  refine g_i2c W at_2 (q := 3) (z := ca) eca rfl ?_
  refine g_istore W at_3 (q := 5) (L' := #[.val (.int x0), .val (.int x1), .val (.int x2), .val (.int x3), .val (.int x4), .val (.int x5), .val (.int ca), .unset, .unset, .unset, .unset, .unset, .unset, .unset, .unset, .unset, .unset, .unset, .unset, .unset, .unset, .unset]) rfl rfl ?_
  refine g_iload W at_5 (q := 7) rfl rfl ?_
  refine g_i2c W at_7 (q := 8) (z := cb) ecb rfl ?_
  refine g_istore W at_8 (q := 10) (L' := #[.val (.int x0), .val (.int x1), .val (.int x2), .val (.int x3), .val (.int x4), .val (.int x5), .val (.int ca), .val (.int cb), .unset, .unset, .unset, .unset, .unset, .unset, .unset, .unset, .unset, .unset, .unset, .unset, .unset, .unset]) rfl rfl ?_
  refine g_iloadN W at_10 (q := 11) rfl rfl ?_
  refine g_iconst W (v := (3 : Int32)) at_11 (q := 12) rfl rfl ?_
  refine g_iand W at_12 (q := 13) (z := ln.toInt32) eln rfl ?_
  refine g_istore W at_13 (q := 15) (L' := #[.val (.int x0), .val (.int x1), .val (.int x2), .val (.int x3), .val (.int x4), .val (.int x5), .val (.int ca), .val (.int cb), .val (.int ln.toInt32), .unset, .unset, .unset, .unset, .unset, .unset, .unset, .unset, .unset, .unset, .unset, .unset, .unset]) rfl rfl ?_
  refine g_iconst W (v := (3 : Int32)) at_15 (q := 16) rfl rfl ?_
  refine g_newA W (ty := .char) (cap := 3) (vs := [.int 0, .int 0, .int 0]) rfl (own_w hw 0 rfl) (by decide) (Nat.le_of_ble_eq_true rfl) (Nat.le_of_ble_eq_true rfl) rfl rfl at_16 (q := 18) rfl (Nat.le_of_ble_eq_true rfl) (Nat.le_of_ble_eq_true rfl) fun ch T W => ?_
  refine g_astore W at_18 (q := 20) (L' := #[.val (.int x0), .val (.int x1), .val (.int x2), .val (.int x3), .val (.int x4), .val (.int x5), .val (.int ca), .val (.int cb), .val (.int ln.toInt32), .val (.ref ch), .unset, .unset, .unset, .unset, .unset, .unset, .unset, .unset, .unset, .unset, .unset, .unset]) rfl rfl rfl ?_
  refine g_aload W at_20 (q := 22) rfl rfl rfl ?_
  refine g_iconst W (v := (0 : Int32)) at_22 (q := 23) rfl rfl ?_
  refine g_iloadN W at_23 (q := 24) rfl rfl ?_
  refine g_iconst W (v := (2 : Int32)) at_24 (q := 25) rfl rfl ?_
  refine g_ishr W at_25 (q := 26) (z := (x0 >>> ((2 : Int32) &&& 31))) rfl rfl ?_
  refine g_bipush W (v := (7 : Int32)) at_26 (q := 28) rfl rfl ?_
  refine g_iand W at_28 (q := 29) (z := ((x0 >>> ((2 : Int32) &&& 31)) &&& (7 : Int32))) rfl rfl ?_
  refine g_iloadN W at_29 (q := 30) rfl rfl ?_
  refine g_iload W at_30 (q := 32) rfl rfl ?_
  refine g_iload W at_32 (q := 34) rfl rfl ?_
  refine g_static W (con_mk l Z a0 E0 _ P _ x1 ca cb hca hcb) (argsL := [(.int ((x0 >>> ((2 : Int32) &&& 31)) &&& (7 : Int32))), (.int x1), (.int ca), (.int cb)]) (rest := [(.int (0 : Int32)), (.ref ch)]) rfl rfl pd_20 rfl (own_w hw 1 rfl) (own_w hw 2 rfl) (own_w hw 3 rfl) (own_w hw 4 rfl) (by decide) at_34 (q := 37) rfl rfl (Nat.le_of_ble_eq_true rfl) (Nat.le_of_ble_eq_true rfl) (Nat.le_of_ble_eq_true rfl) (Nat.le_of_ble_eq_true rfl) ?_
  rintro _ _ _ T ⟨c0, rfl, hc0, rfl, rfl⟩ W
  refine g_castore W (i := 0) (ii := 0) (y := c0) rfl (by decide) (by decide) rfl (own_narc (by omega)) at_37 (q := 38) rfl (vs' := [.int c0, .int 0, .int 0]) rfl (O' := [(ch, ArrC Z .char [.int c0, .int 0, .int 0])]) rfl fun T W => ?_
  refine g_aload W at_38 (q := 40) rfl rfl rfl ?_
  refine g_iconst W (v := (1 : Int32)) at_40 (q := 41) rfl rfl ?_
  refine g_iloadN W at_41 (q := 42) rfl rfl ?_
  refine g_iconst W (v := (5 : Int32)) at_42 (q := 43) rfl rfl ?_
  refine g_ishr W at_43 (q := 44) (z := (x0 >>> ((5 : Int32) &&& 31))) rfl rfl ?_
  refine g_bipush W (v := (7 : Int32)) at_44 (q := 46) rfl rfl ?_
  refine g_iand W at_46 (q := 47) (z := ((x0 >>> ((5 : Int32) &&& 31)) &&& (7 : Int32))) rfl rfl ?_
  refine g_iloadN W at_47 (q := 48) rfl rfl ?_
  refine g_iload W at_48 (q := 50) rfl rfl ?_
  refine g_iload W at_50 (q := 52) rfl rfl ?_
  refine g_static W (con_mk l Z a0 E0 _ P _ x2 ca cb hca hcb) (argsL := [(.int ((x0 >>> ((5 : Int32) &&& 31)) &&& (7 : Int32))), (.int x2), (.int ca), (.int cb)]) (rest := [(.int (1 : Int32)), (.ref ch)]) rfl rfl pd_20 rfl (own_w hw 1 rfl) (own_w hw 2 rfl) (own_w hw 3 rfl) (own_w hw 4 rfl) (by decide) at_52 (q := 55) rfl rfl (Nat.le_of_ble_eq_true rfl) (Nat.le_of_ble_eq_true rfl) (Nat.le_of_ble_eq_true rfl) (Nat.le_of_ble_eq_true rfl) ?_
  rintro _ _ _ T ⟨c1, rfl, hc1, rfl, rfl⟩ W
  refine g_castore W (i := 0) (ii := 1) (y := c1) rfl (by decide) (by decide) rfl (own_narc (by omega)) at_55 (q := 56) rfl (vs' := [.int c0, .int c1, .int 0]) rfl (O' := [(ch, ArrC Z .char [.int c0, .int c1, .int 0])]) rfl fun T W => ?_
  refine g_aload W at_56 (q := 58) rfl rfl rfl ?_
  refine g_iconst W (v := (2 : Int32)) at_58 (q := 59) rfl rfl ?_
  refine g_iloadN W at_59 (q := 60) rfl rfl ?_
  refine g_bipush W (v := (8 : Int32)) at_60 (q := 62) rfl rfl ?_
  refine g_ishr W at_62 (q := 63) (z := (x0 >>> ((8 : Int32) &&& 31))) rfl rfl ?_
  refine g_bipush W (v := (7 : Int32)) at_63 (q := 65) rfl rfl ?_
  refine g_iand W at_65 (q := 66) (z := ((x0 >>> ((8 : Int32) &&& 31)) &&& (7 : Int32))) rfl rfl ?_
  refine g_iloadN W at_66 (q := 67) rfl rfl ?_
  refine g_iload W at_67 (q := 69) rfl rfl ?_
  refine g_iload W at_69 (q := 71) rfl rfl ?_
  refine g_static W (con_mk l Z a0 E0 _ P _ x3 ca cb hca hcb) (argsL := [(.int ((x0 >>> ((8 : Int32) &&& 31)) &&& (7 : Int32))), (.int x3), (.int ca), (.int cb)]) (rest := [(.int (2 : Int32)), (.ref ch)]) rfl rfl pd_20 rfl (own_w hw 1 rfl) (own_w hw 2 rfl) (own_w hw 3 rfl) (own_w hw 4 rfl) (by decide) at_71 (q := 74) rfl rfl (Nat.le_of_ble_eq_true rfl) (Nat.le_of_ble_eq_true rfl) (Nat.le_of_ble_eq_true rfl) (Nat.le_of_ble_eq_true rfl) ?_
  rintro _ _ _ T ⟨c2, rfl, hc2, rfl, rfl⟩ W
  refine g_castore W (i := 0) (ii := 2) (y := c2) rfl (by decide) (by decide) rfl (own_narc (by omega)) at_74 (q := 75) rfl (vs' := [.int c0, .int c1, .int c2]) rfl (O' := [(ch, ArrC Z .char [.int c0, .int c1, .int c2])]) rfl fun T W => ?_
  have W := W.share (i := 0) rfl
  have hc4 : ∀ d ∈ [c0, c1, c2], 0 ≤ d.toInt ∧ d.toInt < 65536 := by simp [hc0, hc1, hc2]
  rcases hln with rfl | rfl | rfl | rfl
  · show Go _ _ _ _ _ _ _ _ _ (mkF m 75 #[.val (.int x0), .val (.int x1), .val (.int x2), .val (.int x3), .val (.int x4), .val (.int x5), .val (.int ca), .val (.int cb), .val (.int (0 : Int32)), .val (.ref ch), .unset, .unset, .unset, .unset, .unset, .unset, .unset, .unset, .unset, .unset, .unset, .unset] [])
    refine g_iload W at_75 (q := 77) rfl rfl ?_
    refine g_ifN W at_77 (q := 80) (XT.i0_ne_f (by decide)) rfl ?_
    refine g_new W (shStr_ok hw) shStr_ds (own_w hw 5 rfl) (own_w hw 6 rfl) (own_w hw 7 rfl) at_80 (q := 83) rfl (Nat.le_of_ble_eq_true rfl) (Nat.le_of_ble_eq_true rfl) fun tx T W => ?_
    refine g_dup W at_83 (q := 84) rfl rfl ?_
    refine g_iconst W (v := (0 : Int32)) at_84 (q := 85) rfl rfl ?_
    refine g_newA W (ty := .char) (cap := 0) (vs := []) rfl (own_w hw 0 rfl) (by decide) (Nat.le_of_ble_eq_true rfl) (Nat.le_of_ble_eq_true rfl) rfl rfl at_85 (q := 87) rfl (Nat.le_of_ble_eq_true rfl) (Nat.le_of_ble_eq_true rfl) fun ta T W => ?_
    have W := W.share (i := 0) rfl
    refine g_special W (con_sI1 l Z a0 E0 [] _ tx ta ([c0, c1, c2].take 0) 0 (by simp) (by decide) (fun d hd => hc4 d (List.mem_of_mem_take hd)) (.head _)) (argsL := [(.ref ta)]) (rest := [(.ref tx)]) rfl rfl rfl pd_21 rfl (own_w hw 8 rfl) (own_w hw 9 rfl) (own_w hw 7 rfl) (own_w hw 10 rfl) (by decide) at_87 (q := 90) rfl rfl (Nat.le_of_ble_eq_true rfl) (Nat.le_of_ble_eq_true rfl) (Nat.le_of_ble_eq_true rfl) (Nat.le_of_ble_eq_true rfl) ?_
    rintro _ _ _ T ⟨rfl, rfl, hsub, hstr⟩ W
    refine g_astore W at_90 (q := 92) (L' := #[.val (.int x0), .val (.int x1), .val (.int x2), .val (.int x3), .val (.int x4), .val (.int x5), .val (.int ca), .val (.int cb), .val (.int (0 : Int32)), .val (.ref ch), .val (.ref tx), .unset, .unset, .unset, .unset, .unset, .unset, .unset, .unset, .unset, .unset, .unset]) rfl rfl rfl ?_
    refine g_goto W at_92 (q := 209) (by decide) (by decide) ?_
    exact law_209 E0 (ch := ch) (cs4 := [c0, c1, c2]) (ln := 0) (hsub _ (.tail _ (.head _))) rfl (by decide) hc4 hstr One.u (by decide) (by decide) T W
  · show Go _ _ _ _ _ _ _ _ _ (mkF m 75 #[.val (.int x0), .val (.int x1), .val (.int x2), .val (.int x3), .val (.int x4), .val (.int x5), .val (.int ca), .val (.int cb), .val (.int (1 : Int32)), .val (.ref ch), .unset, .unset, .unset, .unset, .unset, .unset, .unset, .unset, .unset, .unset, .unset, .unset] [])
    refine g_iload W at_75 (q := 77) rfl rfl ?_
    refine g_ifY W at_77 (q := 95) (XT.i0_ne_t (by decide)) (by decide) (by decide) ?_
    refine g_iload W at_95 (q := 97) rfl rfl ?_
    refine g_iconst W (v := (1 : Int32)) at_97 (q := 98) rfl rfl ?_
    refine g_icN W at_98 (q := 101) (XT.ii_ne_f (by decide)) rfl ?_
    refine g_iconst W (v := (1 : Int32)) at_101 (q := 102) rfl rfl ?_
    refine g_newA W (ty := .char) (cap := 1) (vs := [.int 0]) rfl (own_w hw 0 rfl) (by decide) (Nat.le_of_ble_eq_true rfl) (Nat.le_of_ble_eq_true rfl) rfl rfl at_102 (q := 104) rfl (Nat.le_of_ble_eq_true rfl) (Nat.le_of_ble_eq_true rfl) fun ta T W => ?_
    refine g_astore W at_104 (q := 106) (L' := #[.val (.int x0), .val (.int x1), .val (.int x2), .val (.int x3), .val (.int x4), .val (.int x5), .val (.int ca), .val (.int cb), .val (.int (1 : Int32)), .val (.ref ch), .unset, .val (.ref ta), .unset, .unset, .unset, .unset, .unset, .unset, .unset, .unset, .unset, .unset]) rfl rfl rfl ?_
    refine g_aload W at_106 (q := 108) rfl rfl rfl ?_
    refine g_iconst W (v := (0 : Int32)) at_108 (q := 109) rfl rfl ?_
    refine g_aload W at_109 (q := 111) rfl rfl rfl ?_
    refine g_iconst W (v := (0 : Int32)) at_111 (q := 112) rfl rfl ?_
    refine g_caload W (W.rd (.head _)) (by decide) (i := 0) (by decide) (v := .int c0) rfl at_112 (q := 113) rfl ?_
    refine g_castore W (i := 0) (ii := 0) (y := c0) rfl (by decide) (by decide) rfl (own_narc (by omega)) at_113 (q := 114) rfl (vs' := [.int c0]) rfl (O' := [(ta, ArrC Z .char [.int c0])]) rfl fun T W => ?_
    have W := W.share (i := 0) rfl
    refine g_new W (shStr_ok hw) shStr_ds (own_w hw 5 rfl) (own_w hw 6 rfl) (own_w hw 7 rfl) at_114 (q := 117) rfl (Nat.le_of_ble_eq_true rfl) (Nat.le_of_ble_eq_true rfl) fun tx T W => ?_
    refine g_dup W at_117 (q := 118) rfl rfl ?_
    refine g_aload W at_118 (q := 120) rfl rfl rfl ?_
    refine g_special W (con_sI1 l Z a0 E0 [] _ tx ta ([c0, c1, c2].take 1) 1 (by simp) (by decide) (fun d hd => hc4 d (List.mem_of_mem_take hd)) (.head _)) (argsL := [(.ref ta)]) (rest := [(.ref tx)]) rfl rfl rfl pd_21 rfl (own_w hw 8 rfl) (own_w hw 9 rfl) (own_w hw 7 rfl) (own_w hw 10 rfl) (by decide) at_120 (q := 123) rfl rfl (Nat.le_of_ble_eq_true rfl) (Nat.le_of_ble_eq_true rfl) (Nat.le_of_ble_eq_true rfl) (Nat.le_of_ble_eq_true rfl) ?_
    rintro _ _ _ T ⟨rfl, rfl, hsub, hstr⟩ W
    refine g_astore W at_123 (q := 125) (L' := #[.val (.int x0), .val (.int x1), .val (.int x2), .val (.int x3), .val (.int x4), .val (.int x5), .val (.int ca), .val (.int cb), .val (.int (1 : Int32)), .val (.ref ch), .val (.ref tx), .val (.ref ta), .unset, .unset, .unset, .unset, .unset, .unset, .unset, .unset, .unset, .unset]) rfl rfl rfl ?_
    refine g_goto W at_125 (q := 209) (by decide) (by decide) ?_
    exact law_209 E0 (ch := ch) (cs4 := [c0, c1, c2]) (ln := 1) (hsub _ (.tail _ (.head _))) rfl (by decide) hc4 hstr (One.val rfl) (by decide) (by decide) T W
  · show Go _ _ _ _ _ _ _ _ _ (mkF m 75 #[.val (.int x0), .val (.int x1), .val (.int x2), .val (.int x3), .val (.int x4), .val (.int x5), .val (.int ca), .val (.int cb), .val (.int (2 : Int32)), .val (.ref ch), .unset, .unset, .unset, .unset, .unset, .unset, .unset, .unset, .unset, .unset, .unset, .unset] [])
    refine g_iload W at_75 (q := 77) rfl rfl ?_
    refine g_ifY W at_77 (q := 95) (XT.i0_ne_t (by decide)) (by decide) (by decide) ?_
    refine g_iload W at_95 (q := 97) rfl rfl ?_
    refine g_iconst W (v := (1 : Int32)) at_97 (q := 98) rfl rfl ?_
    refine g_icY W at_98 (q := 128) (XT.ii_ne_t (by decide)) (by decide) (by decide) ?_
    refine g_iload W at_128 (q := 130) rfl rfl ?_
    refine g_iconst W (v := (2 : Int32)) at_130 (q := 131) rfl rfl ?_
    refine g_icN W at_131 (q := 134) (XT.ii_ne_f (by decide)) rfl ?_
    refine g_iconst W (v := (2 : Int32)) at_134 (q := 135) rfl rfl ?_
    refine g_newA W (ty := .char) (cap := 2) (vs := [.int 0, .int 0]) rfl (own_w hw 0 rfl) (by decide) (Nat.le_of_ble_eq_true rfl) (Nat.le_of_ble_eq_true rfl) rfl rfl at_135 (q := 137) rfl (Nat.le_of_ble_eq_true rfl) (Nat.le_of_ble_eq_true rfl) fun ta T W => ?_
    refine g_astore W at_137 (q := 139) (L' := #[.val (.int x0), .val (.int x1), .val (.int x2), .val (.int x3), .val (.int x4), .val (.int x5), .val (.int ca), .val (.int cb), .val (.int (2 : Int32)), .val (.ref ch), .unset, .val (.ref ta), .unset, .unset, .unset, .unset, .unset, .unset, .unset, .unset, .unset, .unset]) rfl rfl rfl ?_
    refine g_aload W at_139 (q := 141) rfl rfl rfl ?_
    refine g_iconst W (v := (0 : Int32)) at_141 (q := 142) rfl rfl ?_
    refine g_aload W at_142 (q := 144) rfl rfl rfl ?_
    refine g_iconst W (v := (0 : Int32)) at_144 (q := 145) rfl rfl ?_
    refine g_caload W (W.rd (.head _)) (by decide) (i := 0) (by decide) (v := .int c0) rfl at_145 (q := 146) rfl ?_
    refine g_castore W (i := 0) (ii := 0) (y := c0) rfl (by decide) (by decide) rfl (own_narc (by omega)) at_146 (q := 147) rfl (vs' := [.int c0, .int 0]) rfl (O' := [(ta, ArrC Z .char [.int c0, .int 0])]) rfl fun T W => ?_
    refine g_aload W at_147 (q := 149) rfl rfl rfl ?_
    refine g_iconst W (v := (1 : Int32)) at_149 (q := 150) rfl rfl ?_
    refine g_aload W at_150 (q := 152) rfl rfl rfl ?_
    refine g_iconst W (v := (1 : Int32)) at_152 (q := 153) rfl rfl ?_
    refine g_caload W (W.rd (.head _)) (by decide) (i := 1) (by decide) (v := .int c1) rfl at_153 (q := 154) rfl ?_
    refine g_castore W (i := 0) (ii := 1) (y := c1) rfl (by decide) (by decide) rfl (own_narc (by omega)) at_154 (q := 155) rfl (vs' := [.int c0, .int c1]) rfl (O' := [(ta, ArrC Z .char [.int c0, .int c1])]) rfl fun T W => ?_
    have W := W.share (i := 0) rfl
    refine g_new W (shStr_ok hw) shStr_ds (own_w hw 5 rfl) (own_w hw 6 rfl) (own_w hw 7 rfl) at_155 (q := 158) rfl (Nat.le_of_ble_eq_true rfl) (Nat.le_of_ble_eq_true rfl) fun tx T W => ?_
    refine g_dup W at_158 (q := 159) rfl rfl ?_
    refine g_aload W at_159 (q := 161) rfl rfl rfl ?_
    refine g_special W (con_sI1 l Z a0 E0 [] _ tx ta ([c0, c1, c2].take 2) 2 (by simp) (by decide) (fun d hd => hc4 d (List.mem_of_mem_take hd)) (.head _)) (argsL := [(.ref ta)]) (rest := [(.ref tx)]) rfl rfl rfl pd_21 rfl (own_w hw 8 rfl) (own_w hw 9 rfl) (own_w hw 7 rfl) (own_w hw 10 rfl) (by decide) at_161 (q := 164) rfl rfl (Nat.le_of_ble_eq_true rfl) (Nat.le_of_ble_eq_true rfl) (Nat.le_of_ble_eq_true rfl) (Nat.le_of_ble_eq_true rfl) ?_
    rintro _ _ _ T ⟨rfl, rfl, hsub, hstr⟩ W
    refine g_astore W at_164 (q := 166) (L' := #[.val (.int x0), .val (.int x1), .val (.int x2), .val (.int x3), .val (.int x4), .val (.int x5), .val (.int ca), .val (.int cb), .val (.int (2 : Int32)), .val (.ref ch), .val (.ref tx), .val (.ref ta), .unset, .unset, .unset, .unset, .unset, .unset, .unset, .unset, .unset, .unset]) rfl rfl rfl ?_
    refine g_goto W at_166 (q := 209) (by decide) (by decide) ?_
    exact law_209 E0 (ch := ch) (cs4 := [c0, c1, c2]) (ln := 2) (hsub _ (.tail _ (.head _))) rfl (by decide) hc4 hstr (One.val rfl) (by decide) (by decide) T W
  · show Go _ _ _ _ _ _ _ _ _ (mkF m 75 #[.val (.int x0), .val (.int x1), .val (.int x2), .val (.int x3), .val (.int x4), .val (.int x5), .val (.int ca), .val (.int cb), .val (.int (3 : Int32)), .val (.ref ch), .unset, .unset, .unset, .unset, .unset, .unset, .unset, .unset, .unset, .unset, .unset, .unset] [])
    refine g_iload W at_75 (q := 77) rfl rfl ?_
    refine g_ifY W at_77 (q := 95) (XT.i0_ne_t (by decide)) (by decide) (by decide) ?_
    refine g_iload W at_95 (q := 97) rfl rfl ?_
    refine g_iconst W (v := (1 : Int32)) at_97 (q := 98) rfl rfl ?_
    refine g_icY W at_98 (q := 128) (XT.ii_ne_t (by decide)) (by decide) (by decide) ?_
    refine g_iload W at_128 (q := 130) rfl rfl ?_
    refine g_iconst W (v := (2 : Int32)) at_130 (q := 131) rfl rfl ?_
    refine g_icY W at_131 (q := 169) (XT.ii_ne_t (by decide)) (by decide) (by decide) ?_
    refine g_iconst W (v := (3 : Int32)) at_169 (q := 170) rfl rfl ?_
    refine g_newA W (ty := .char) (cap := 3) (vs := [.int 0, .int 0, .int 0]) rfl (own_w hw 0 rfl) (by decide) (Nat.le_of_ble_eq_true rfl) (Nat.le_of_ble_eq_true rfl) rfl rfl at_170 (q := 172) rfl (Nat.le_of_ble_eq_true rfl) (Nat.le_of_ble_eq_true rfl) fun ta T W => ?_
    refine g_astore W at_172 (q := 174) (L' := #[.val (.int x0), .val (.int x1), .val (.int x2), .val (.int x3), .val (.int x4), .val (.int x5), .val (.int ca), .val (.int cb), .val (.int (3 : Int32)), .val (.ref ch), .unset, .val (.ref ta), .unset, .unset, .unset, .unset, .unset, .unset, .unset, .unset, .unset, .unset]) rfl rfl rfl ?_
    refine g_aload W at_174 (q := 176) rfl rfl rfl ?_
    refine g_iconst W (v := (0 : Int32)) at_176 (q := 177) rfl rfl ?_
    refine g_aload W at_177 (q := 179) rfl rfl rfl ?_
    refine g_iconst W (v := (0 : Int32)) at_179 (q := 180) rfl rfl ?_
    refine g_caload W (W.rd (.head _)) (by decide) (i := 0) (by decide) (v := .int c0) rfl at_180 (q := 181) rfl ?_
    refine g_castore W (i := 0) (ii := 0) (y := c0) rfl (by decide) (by decide) rfl (own_narc (by omega)) at_181 (q := 182) rfl (vs' := [.int c0, .int 0, .int 0]) rfl (O' := [(ta, ArrC Z .char [.int c0, .int 0, .int 0])]) rfl fun T W => ?_
    refine g_aload W at_182 (q := 184) rfl rfl rfl ?_
    refine g_iconst W (v := (1 : Int32)) at_184 (q := 185) rfl rfl ?_
    refine g_aload W at_185 (q := 187) rfl rfl rfl ?_
    refine g_iconst W (v := (1 : Int32)) at_187 (q := 188) rfl rfl ?_
    refine g_caload W (W.rd (.head _)) (by decide) (i := 1) (by decide) (v := .int c1) rfl at_188 (q := 189) rfl ?_
    refine g_castore W (i := 0) (ii := 1) (y := c1) rfl (by decide) (by decide) rfl (own_narc (by omega)) at_189 (q := 190) rfl (vs' := [.int c0, .int c1, .int 0]) rfl (O' := [(ta, ArrC Z .char [.int c0, .int c1, .int 0])]) rfl fun T W => ?_
    refine g_aload W at_190 (q := 192) rfl rfl rfl ?_
    refine g_iconst W (v := (2 : Int32)) at_192 (q := 193) rfl rfl ?_
    refine g_aload W at_193 (q := 195) rfl rfl rfl ?_
    refine g_iconst W (v := (2 : Int32)) at_195 (q := 196) rfl rfl ?_
    refine g_caload W (W.rd (.head _)) (by decide) (i := 2) (by decide) (v := .int c2) rfl at_196 (q := 197) rfl ?_
    refine g_castore W (i := 0) (ii := 2) (y := c2) rfl (by decide) (by decide) rfl (own_narc (by omega)) at_197 (q := 198) rfl (vs' := [.int c0, .int c1, .int c2]) rfl (O' := [(ta, ArrC Z .char [.int c0, .int c1, .int c2])]) rfl fun T W => ?_
    have W := W.share (i := 0) rfl
    refine g_new W (shStr_ok hw) shStr_ds (own_w hw 5 rfl) (own_w hw 6 rfl) (own_w hw 7 rfl) at_198 (q := 201) rfl (Nat.le_of_ble_eq_true rfl) (Nat.le_of_ble_eq_true rfl) fun tx T W => ?_
    refine g_dup W at_201 (q := 202) rfl rfl ?_
    refine g_aload W at_202 (q := 204) rfl rfl rfl ?_
    refine g_special W (con_sI1 l Z a0 E0 [] _ tx ta ([c0, c1, c2].take 3) 3 (by simp) (by decide) (fun d hd => hc4 d (List.mem_of_mem_take hd)) (.head _)) (argsL := [(.ref ta)]) (rest := [(.ref tx)]) rfl rfl rfl pd_21 rfl (own_w hw 8 rfl) (own_w hw 9 rfl) (own_w hw 7 rfl) (own_w hw 10 rfl) (by decide) at_204 (q := 207) rfl rfl (Nat.le_of_ble_eq_true rfl) (Nat.le_of_ble_eq_true rfl) (Nat.le_of_ble_eq_true rfl) (Nat.le_of_ble_eq_true rfl) ?_
    rintro _ _ _ T ⟨rfl, rfl, hsub, hstr⟩ W
    refine g_astore W at_207 (q := 209) (L' := #[.val (.int x0), .val (.int x1), .val (.int x2), .val (.int x3), .val (.int x4), .val (.int x5), .val (.int ca), .val (.int cb), .val (.int (3 : Int32)), .val (.ref ch), .val (.ref tx), .val (.ref ta), .unset, .unset, .unset, .unset, .unset, .unset, .unset, .unset, .unset, .unset]) rfl rfl rfl ?_
    exact law_209 E0 (ch := ch) (cs4 := [c0, c1, c2]) (ln := 3) (hsub _ (.tail _ (.head _))) rfl (by decide) hc4 hstr (One.val rfl) (by decide) (by decide) T W
theorem own_EW {Z : State} {a0 : Array Value} (hw : ∀ d ∈ tables_1, d.before a0 Z = true) : EW Z a0 EL0 := EW.cons (own_w hw 18 rfl) (by decide +kernel) EW.nil
set_option maxRecDepth 65536 in
set_option maxHeartbeats 40000000 in
theorem comes_1 {Post : Tables → Env → Array Value → State → Outcome → State → Prop} (hpost : ∀ tb e args s v u, (limb_1_1.after args s (.returned v) u = true ∧ limb_1_2.after args s (.returned v) u = true ∧ True) → ReturnedEndW s (.returned v) u (Jvm.fieldLocs frame_1_writes args s ++ Jvm.arrayLocs frame_1_arrays args s ++ Jvm.staticLocs frame_1_statics s) 24 2176 → Post tb e args s (.returned v) u) :
    ArmFor flags0 classFile x code maxLocals ret World_1 tables_1 room_1 Calls_1 rest_1 Pre_1 Post := by
  intro l hfl _ _ p e ha hc hk s m args below hf hA hF happ hP
  obtain ⟨hcalls, hrest, hpre⟩ := hP
  obtain ⟨-, -, -, hnamed, -, -, -, hat⟩ := (Spec.applies_iff hf).mp happ
  obtain ⟨hg, hn⟩ := and_e (Cond.before_iff.mp (show (Jvm.Cond.and given_1 narrow_1).before args s = true from hpre))
  obtain ⟨g0, gr0⟩ := and_e hg
  obtain ⟨g1, gr1⟩ := and_e gr0
  obtain ⟨g2, gr2⟩ := and_e gr1
  obtain ⟨g3, gr3⟩ := and_e gr2
  obtain ⟨g4, gr4⟩ := and_e gr3
  obtain ⟨g5, gr5⟩ := and_e gr4
  obtain ⟨w0, w1, w2, w3, w4, w5, rfl⟩ : ∃ w0 w1 w2 w3 w4 w5 : Value, args = #[w0, w1, w2, w3, w4, w5] := by
    have hs : args.size = 6 := by simpa [Cond.value, given_1] using g0
    obtain ⟨L⟩ := args
    match L, hs with
    | [w0, w1, w2, w3, w4, w5], _ => exact ⟨w0, w1, w2, w3, w4, w5, rfl⟩
  have hw := fun d (hd : d ∈ tables_1) => atoms_spec (ws := Jvm.Cond.code x code maxLocals ret :: tables_1) hat d (List.mem_cons_of_mem _ hd)
  obtain ⟨hs0, hown0⟩ := atoms_of _ (rest_1_c_eq ▸ (show rest_1_c.before _ s = true from hrest))
  have hfit : Fit s := fun {y c} hc i hi => by
    obtain ⟨ha, rfl⟩ := Array.getElem?_eq_some_iff.mp hc
    have q := List.all_eq_true.mp ((Array.all_eq_true_iff_forall_mem.mp hF) _ (Array.getElem_mem ha)) i (List.mem_range.mpr hi)
    simpa [Array.getElem?_eq_getElem hi] using q
  obtain ⟨x0, ex0⟩ := is_v g1
  obtain rfl : w0 = (.int x0) := Option.some.inj ex0
  obtain ⟨x1, ex1⟩ := is_v g2
  obtain rfl : w1 = (.int x1) := Option.some.inj ex1
  obtain ⟨x2, ex2⟩ := is_v g3
  obtain rfl : w2 = (.int x2) := Option.some.inj ex2
  obtain ⟨x3, ex3⟩ := is_v g4
  obtain rfl : w3 = (.int x3) := Option.some.inj ex3
  obtain ⟨x4, ex4⟩ := is_v g5
  obtain rfl : w4 = (.int x4) := Option.some.inj ex4
  obtain ⟨x5, ex5⟩ := is_v gr5
  obtain rfl : w5 = (.int x5) := Option.some.inj ex5
  obtain ⟨fv, efv, hfv⟩ := isR_v (Cond.before_iff.mp (own_s hs0 8 rfl))
  have hFv := Sta.start efv (Or.inl (own_s hs0 7 rfl))
  have hAD := Sta.start (eqv_i (Term.int_eval (1)) (Cond.before_iff.mp (own_s hs0 12 rfl))) (Or.inl (own_s hs0 11 rfl))
  have hHI := Sta.start (eqv_i (Term.int_eval (0)) (Cond.before_iff.mp (own_s hs0 15 rfl))) (Or.inl (own_s hs0 14 rfl))
  have hLO := Sta.start (eqv_i (Term.int_eval (8)) (Cond.before_iff.mp (own_s hs0 18 rfl))) (Or.inl (own_s hs0 17 rfl))
  have hStr : ∀ a ∈ Bundle.stringAtoms, a.before _ s = true := fun a q => hw a ((by decide +kernel : ∀ a ∈ Bundle.stringAtoms, a ∈ tables_1) a q)
  obtain ⟨ccs, ecs⟩ := is_v (Cond.before_iff.mp (hs0 _ (List.mem_of_getElem? (i := 1) rfl)))
  have hcC : Sta s s.heap "java/lang/String" "COMPACT_STRINGS" "Z" (.int ccs) := Sta.start ecs (Or.inl (hs0 _ (List.mem_of_getElem? (i := 0) rfl)))
  have hcc : ¬ (ccs = (0 : Int32)) := gotF (Cond.eq_ints ecs (Term.int_eval (0))) (not_v (Cond.before_iff.mp (hs0 _ (List.mem_of_getElem? (i := 2) rfl))))
  have hEW : EW s _ EL0 := own_EW hw
  have hCH : CHv s EL0 s.vm s.heap := CHv.start hEW (fun p hp => by rcases List.mem_cons.mp hp with rfl | hp; exact hcalls.1 _ (by decide); cases hp) (hs0 _ (List.mem_of_getElem? (i := 2) rfl)) (own_w hw 19 rfl) (own_w hw 6 rfl)
  have E0 : Env0 s _ := ⟨hw, hs0, hEW, hStr, ⟨ccs, hcC, hcc⟩, ⟨fv, hFv, hfv⟩, hAD, hHI, hLO⟩
  obtain ⟨n, o, h1, h2, h3, v, L, rfl, -, hq, N, -, O', P', -, rfl⟩ := con_law (kn := False) l s _ E0 [] x0 x1 x2 x3 x4 x5 p e ha hc hk s m _ below hf ((Spec.applies_iff_loose hf).mp happ).1 ⟨rfl, State.Warmed39.refl s, hCH, ⟨Nat.le_refl _, fun _ _ q => q⟩, Lay.nil (fun y hy => by cases hy)⟩ (fun z => z.elim)
  exact ⟨n, _, h1, h2, h3, hpost _ _ _ _ _ _ ⟨Cond.after_iff.mpr rfl, Cond.after_iff.mpr (eq_i res_at (Term.int_eval (1)) rfl), trivial⟩ ⟨hq.1, hq.2.1, hq.2.2.1, (hq.2.2.2.sift fun y hy => Or.inr (N y hy)).mono (by decide) (by decide)⟩⟩
theorem main_1_1 : Claimed_1_1 := comes_1 fun _ _ _ _ _ _ h hF => ⟨h.1, hF⟩
theorem main_1_2 : Claimed_1_2 := comes_1 fun _ _ _ _ _ _ h hF => ⟨h.2.1, hF⟩
end Jvm.Pilot.@@N@@
namespace Jvm.Pilot.@@N@@
open Jvm Jvm.ClassFile Sem Op Lib Jvm.Free Jvm.Stand Jvm.Pilot.@@N@@.Jvm.D
/-! MADE BY PROGRAM (witnessworld.py) out of the Statement's table words and the real class files: 20 classes; the members and pool entries that the words name. The judged class is class 1, her method 4. -/
namespace start1
open Jvm.ClassFile
def u (s : String) : CpInfo := .utf8 (stringToUtf16 s)
/-- a pool by its gaps: so many unusable entries, then the entry; so many at the end -/
def gap : Nat → List CpInfo → List CpInfo
  | 0, r => r
  | n + 1, r => .unusable :: gap n r
def poolList (es : List (Nat × CpInfo)) (last : Nat) : List CpInfo := es.foldr (fun e r => gap e.1 (e.2 :: r)) (gap last [])
def pool (es : List (Nat × CpInfo)) (last : Nat) : Array CpInfo := ⟨poolList es last⟩
def fileOf (pool : Array CpInfo) (this : Nat) (attrs : Array Attribute := #[]) (ms : Array MethodInfo := #[]) (fl : Nat := 33) (sup : Nat := 0) (ifs : Array Nat := #[]) (fds : Array FieldInfo := #[]) : ClassFile where
  minorVersion := 0
  majorVersion := 65
  constantPool := pool
  accessFlags := fl
  thisClass := this
  superClass := sup
  interfaces := ifs
  fields := fds
  methods := ms
  attributes := attrs
def plain (name : String) (sup : Option ClassId) : Class where
  name := name
  kind := .ordinary
  loader := none
  accessFlags := 33
  super := sup
  interfaces := #[]
  cf := none
  fields := #[]
  methods := #[]
  instanceTypes := #[]
  staticTypes := #[]
  resolved := #[]
  callSites := []
  init := .initialized
  statics := none
  mirror := none

def pool0 : Array CpInfo := pool [(5, u "<init>"), (0, u "()V"), (1, .class_ 10), (1, u "java/lang/Object")] 113

def k0c0 : Code := { maxStack := 0, maxLocals := 1, code := object_method_1_code, exceptionTable := #[], attributes := #[] }
def k0m0 : Method := { name := "<init>", desc := "()V", sig := { parameters := [], returnType := none }, accessFlags := 1, code := some k0c0 }
/-- java/lang/Object -/
def k0 : Class := { plain "java/lang/Object" none with
  accessFlags := 33
  interfaces := #[]
  cf := some (fileOf pool0 8 #[] #[{ accessFlags := 1, nameIndex := 5, descriptorIndex := 6, attributes := #[] }] 33 0 #[] #[])
  fields := #[]
  methods := #[k0m0]
  instanceTypes := #[]
  staticTypes := #[]
  resolved := Array.replicate 124 none
  statics := none }

def pool1 : Array CpInfo := pool [(2, .class_ 4), (1, u "java/lang/Object"), (0, u "<init>"), (0, u "()V"), (0, .methodref 8 9), (0, .class_ 10), (0, .nameAndType 11 12), (0, u "com/example/recaller/recaller/LexerAcceptPinLaw"), (0, u "step"), (0, u "([CII)I"), (0, .methodref 8 14), (0, .nameAndType 15 16), (0, u "mk"), (0, u "(IICC)C"), (0, .class_ 18), (0, u "java/lang/String"), (0, .methodref 17 20), (0, .nameAndType 5 21), (0, u "([C)V"), (0, .class_ 23), (0, u "com/example/recaller/recaller/Lexer"), (0, .string 25), (0, u "s"), (0, .methodref 22 27), (0, .nameAndType 5 28), (0, u "(Ljava/lang/String;Ljava/lang/String;)V"), (0, .methodref 22 30), (0, .nameAndType 31 32), (0, u "accept"), (0, u "(C)Z"), (0, .methodref 22 34), (0, .nameAndType 35 36), (0, u "getPosition"), (0, u "()I"), (0, .methodref 8 38), (0, .nameAndType 39 12), (0, u "skip"), (3, u "law"), (0, u "(IIIIII)Z")] 4

def k1m0 : Method := { name := "<init>", desc := "()V", sig := { parameters := [], returnType := none }, accessFlags := 2, code := none }
def k1c1 : Code := { maxStack := 2, maxLocals := 4, code := method_2_code, exceptionTable := #[], attributes := #[] }
def k1m1 : Method := { name := "mk", desc := "(IICC)C", sig := { parameters := [.int, .int, .char, .char], returnType := some .char }, accessFlags := 10, code := some k1c1 }
def k1c2 : Code := { maxStack := 2, maxLocals := 3, code := method_3_code, exceptionTable := #[], attributes := #[] }
def k1m2 : Method := { name := "step", desc := "([CII)I", sig := { parameters := [(.array .char), .int, .int], returnType := some .int }, accessFlags := 10, code := some k1c2 }
def k1c3 : Code := { maxStack := 3, maxLocals := 4, code := method_4_code, exceptionTable := #[], attributes := #[] }
def k1m3 : Method := { name := "skip", desc := "([CII)I", sig := { parameters := [(.array .char), .int, .int], returnType := some .int }, accessFlags := 10, code := some k1c3 }
def k1c4 : Code := { maxStack := 6, maxLocals := 22, code := code, exceptionTable := #[], attributes := #[] }
def k1m4 : Method := { name := "law", desc := "(IIIIII)Z", sig := { parameters := [.int, .int, .int, .int, .int, .int], returnType := some .boolean }, accessFlags := 9, code := some k1c4 }
/-- com/example/recaller/recaller/LexerAcceptPinLaw -/
def k1 : Class := { plain "com/example/recaller/recaller/LexerAcceptPinLaw" (some 0) with
  accessFlags := 49
  interfaces := #[]
  cf := some (fileOf pool1 8 #[] #[{ accessFlags := 2, nameIndex := 5, descriptorIndex := 6, attributes := #[] }, { accessFlags := 10, nameIndex := 15, descriptorIndex := 16, attributes := #[] }, { accessFlags := 10, nameIndex := 11, descriptorIndex := 12, attributes := #[] }, { accessFlags := 10, nameIndex := 39, descriptorIndex := 12, attributes := #[] }, { accessFlags := 9, nameIndex := 43, descriptorIndex := 44, attributes := #[] }] 49 2 #[] #[])
  fields := #[]
  methods := #[k1m0, k1m1, k1m2, k1m3, k1m4]
  instanceTypes := #[]
  staticTypes := #[]
  resolved := Array.replicate 49 none
  statics := none }

def pool2 : Array CpInfo := pool [(1, .class_ 2), (0, u "java/io/Serializable"), (0, .class_ 4), (0, u "java/lang/Object")] 2

/-- java/io/Serializable -/
def k2 : Class := { plain "java/io/Serializable" (some 0) with
  accessFlags := 1537
  interfaces := #[]
  cf := some (fileOf pool2 1 #[] #[] 1537 3 #[] #[])
  fields := #[]
  methods := #[]
  instanceTypes := #[]
  staticTypes := #[]
  resolved := Array.replicate 7 none
  statics := none }

def pool3 : Array CpInfo := pool [(1, .class_ 2), (0, u "java/lang/Comparable"), (0, .class_ 4), (0, u "java/lang/Object")] 7

/-- java/lang/Comparable -/
def k3 : Class := { plain "java/lang/Comparable" (some 0) with
  accessFlags := 1537
  interfaces := #[]
  cf := some (fileOf pool3 1 #[] #[] 1537 3 #[] #[])
  fields := #[]
  methods := #[]
  instanceTypes := #[]
  staticTypes := #[]
  resolved := Array.replicate 12 none
  statics := none }

def pool4 : Array CpInfo := pool [(2, .class_ 4), (1, u "java/lang/CharSequence"), (42, .class_ 48), (0, u "java/lang/CharSequence$1CodePointIterator"), (10, .class_ 60), (0, u "java/lang/CharSequence$1CharIterator"), (5, .class_ 67), (0, u "java/lang/Object")] 63

/-- java/lang/CharSequence -/
def k4 : Class := { plain "java/lang/CharSequence" (some 0) with
  accessFlags := 1537
  interfaces := #[]
  cf := some (fileOf pool4 2 #[.nestMembers #[47, 59]] #[] 1537 66 #[] #[])
  fields := #[]
  methods := #[]
  instanceTypes := #[]
  staticTypes := #[]
  resolved := Array.replicate 131 none
  statics := none }

def pool5 : Array CpInfo := pool [(1, .class_ 2), (0, u "java/lang/constant/Constable"), (0, .class_ 4), (0, u "java/lang/Object")] 6

/-- java/lang/constant/Constable -/
def k5 : Class := { plain "java/lang/constant/Constable" (some 0) with
  accessFlags := 1537
  interfaces := #[]
  cf := some (fileOf pool5 1 #[] #[] 1537 3 #[] #[])
  fields := #[]
  methods := #[]
  instanceTypes := #[]
  staticTypes := #[]
  resolved := Array.replicate 11 none
  statics := none }

def pool6 : Array CpInfo := pool [(1, .class_ 2), (0, u "java/lang/constant/ConstantDesc"), (0, .class_ 4), (0, u "java/lang/Object")] 32

/-- java/lang/constant/ConstantDesc -/
def k6 : Class := { plain "java/lang/constant/ConstantDesc" (some 0) with
  accessFlags := 1537
  interfaces := #[]
  cf := some (fileOf pool6 1 #[] #[] 1537 3 #[] #[])
  fields := #[]
  methods := #[]
  instanceTypes := #[]
  staticTypes := #[]
  resolved := Array.replicate 37 none
  statics := none }

def pool7 : Array CpInfo := pool [(1, .methodref 2 3), (0, .class_ 4), (0, .nameAndType 5 6), (0, u "java/lang/Object"), (0, u "<init>"), (0, u "()V"), (0, .string 8), (0, u ""), (0, .fieldref 10 11), (0, .class_ 12), (0, .nameAndType 13 14), (0, u "java/lang/String"), (0, u "value"), (0, u "[B"), (0, .fieldref 10 16), (0, .nameAndType 17 18), (0, u "coder"), (0, u "B"), (2, u "hash"), (0, u "I"), (2, u "hashIsZero"), (0, u "Z"), (0, .methodref 10 28), (0, .nameAndType 5 29), (0, u "([CIILjava/lang/Void;)V"), (8, .fieldref 10 39), (0, .nameAndType 40 26), (0, u "COMPACT_STRINGS"), (1, .class_ 44), (1, u "java/lang/StringUTF16"), (0, u "compress"), (1, .methodref 42 48), (0, .nameAndType 49 50), (0, u "coderFromArrayLen"), (0, u "([BI)B"), (56, .class_ 109), (1, u "java/lang/StringLatin1"), (32, u "()Z"), (34, .methodref 42 178), (0, .nameAndType 45 179), (0, u "([CII)[B"), (154, u "()I"), (0, .methodref 10 336), (0, .nameAndType 17 337), (0, u "()B"), (25, u "([BI)C"), (27, u "(II)V"), (35, u "(I)C"), (64, .methodref 10 493), (0, .nameAndType 494 142), (0, u "isLatin1"), (0, .methodref 107 496), (0, .nameAndType 497 363), (0, u "charAt"), (0, .methodref 42 496), (2, u "checkIndex"), (5, u "length"), (67, .class_ 576), (0, u "java/lang/CharSequence"), (22, u "CASE_INSENSITIVE_ORDER"), (0, u "Ljava/util/Comparator;"), (409, u "([C)V"), (42, .fieldref 1054 1055), (0, .class_ 1056), (0, .nameAndType 1057 1058), (0, u "jdk/internal/util/Preconditions"), (0, u "SIOOBE_FORMATTER"), (0, u "Ljava/util/function/BiFunction;"), (0, .methodref 1054 1060), (0, .nameAndType 501 1061), (0, u "(IILjava/util/function/BiFunction;)I"), (39, u "serialPersistentFields"), (0, u "[Ljava/io/ObjectStreamField;"), (0, .class_ 1104), (0, u "java/lang/String$CaseInsensitiveComparator"), (1, .class_ 1107), (0, u "java/io/Serializable"), (0, .class_ 1109), (0, u "java/lang/Comparable"), (0, .class_ 1111), (0, u "java/lang/constant/Constable"), (0, .class_ 1113), (0, u "java/lang/constant/ConstantDesc"), (2, u "serialVersionUID"), (0, u "J"), (3, u "REPL"), (0, u "C"), (2, u "LATIN1"), (1, u "UTF16")] 323

def k7m0 : Method := { name := "<init>", desc := "()V", sig := { parameters := [], returnType := none }, accessFlags := 1, code := none }
def k7c1 : Code := { maxStack := 5, maxLocals := 2, code := jdk_42_method_3_code, exceptionTable := #[], attributes := #[] }
def k7m1 : Method := { name := "<init>", desc := "([C)V", sig := { parameters := [(.array .char)], returnType := none }, accessFlags := 1, code := some k7c1 }
def k7c2 : Code := { maxStack := 2, maxLocals := 1, code := jdk_42_method_54_code, exceptionTable := #[], attributes := #[] }
def k7m2 : Method := { name := "length", desc := "()I", sig := { parameters := [], returnType := some .int }, accessFlags := 1, code := some k7c2 }
def k7c3 : Code := { maxStack := 2, maxLocals := 2, code := jdk_42_method_56_code, exceptionTable := #[], attributes := #[] }
def k7m3 : Method := { name := "charAt", desc := "(I)C", sig := { parameters := [.int], returnType := some .char }, accessFlags := 1, code := some k7c3 }
def k7c4 : Code := { maxStack := 4, maxLocals := 6, code := jdk_42_method_149_code, exceptionTable := #[], attributes := #[] }
def k7m4 : Method := { name := "<init>", desc := "([CIILjava/lang/Void;)V", sig := { parameters := [(.array .char), .int, .int, (.object "java/lang/Void")], returnType := none }, accessFlags := 2, code := some k7c4 }
def k7c5 : Code := { maxStack := 1, maxLocals := 1, code := jdk_42_method_152_code, exceptionTable := #[], attributes := #[] }
def k7m5 : Method := { name := "coder", desc := "()B", sig := { parameters := [], returnType := some .byte }, accessFlags := 0, code := some k7c5 }
def k7c6 : Code := { maxStack := 1, maxLocals := 1, code := jdk_42_method_154_code, exceptionTable := #[], attributes := #[] }
def k7m6 : Method := { name := "isLatin1", desc := "()Z", sig := { parameters := [], returnType := some .boolean }, accessFlags := 0, code := some k7c6 }
def k7c7 : Code := { maxStack := 3, maxLocals := 2, code := jdk_42_method_155_code, exceptionTable := #[], attributes := #[] }
def k7m7 : Method := { name := "checkIndex", desc := "(II)V", sig := { parameters := [.int, .int], returnType := none }, accessFlags := 8, code := some k7c7 }
/-- java/lang/String -/
def k7 : Class := { plain "java/lang/String" (some 0) with
  accessFlags := 49
  interfaces := #[2, 3, 4, 5, 6]
  cf := some (fileOf pool7 10 #[.nestMembers #[1103]] #[{ accessFlags := 1, nameIndex := 5, descriptorIndex := 6, attributes := #[] }, { accessFlags := 1, nameIndex := 5, descriptorIndex := 1010, attributes := #[] }, { accessFlags := 1, nameIndex := 507, descriptorIndex := 334, attributes := #[] }, { accessFlags := 1, nameIndex := 497, descriptorIndex := 427, attributes := #[] }, { accessFlags := 2, nameIndex := 5, descriptorIndex := 29, attributes := #[] }, { accessFlags := 0, nameIndex := 17, descriptorIndex := 337, attributes := #[] }, { accessFlags := 0, nameIndex := 494, descriptorIndex := 142, attributes := #[] }, { accessFlags := 8, nameIndex := 501, descriptorIndex := 391, attributes := #[] }] 49 2 #[1106, 1108, 575, 1110, 1112] #[{ accessFlags := 18, nameIndex := 13, descriptorIndex := 14, attributes := #[] }, { accessFlags := 18, nameIndex := 17, descriptorIndex := 18, attributes := #[] }, { accessFlags := 2, nameIndex := 21, descriptorIndex := 22, attributes := #[] }, { accessFlags := 2, nameIndex := 25, descriptorIndex := 26, attributes := #[] }, { accessFlags := 26, nameIndex := 1116, descriptorIndex := 1117, attributes := #[] }, { accessFlags := 24, nameIndex := 40, descriptorIndex := 26, attributes := #[] }, { accessFlags := 26, nameIndex := 1101, descriptorIndex := 1102, attributes := #[] }, { accessFlags := 26, nameIndex := 1121, descriptorIndex := 1122, attributes := #[] }, { accessFlags := 25, nameIndex := 599, descriptorIndex := 600, attributes := #[] }, { accessFlags := 24, nameIndex := 1125, descriptorIndex := 18, attributes := #[] }, { accessFlags := 24, nameIndex := 1127, descriptorIndex := 18, attributes := #[] }])
  fields := #[{ name := "value", type := (.array .byte), accessFlags := 18, slot := 0, constantValue := 0 }, { name := "coder", type := .byte, accessFlags := 18, slot := 1, constantValue := 0 }, { name := "hash", type := .int, accessFlags := 2, slot := 2, constantValue := 0 }, { name := "hashIsZero", type := .boolean, accessFlags := 2, slot := 3, constantValue := 0 }, { name := "serialVersionUID", type := .long, accessFlags := 26, slot := 0, constantValue := 0 }, { name := "COMPACT_STRINGS", type := .boolean, accessFlags := 24, slot := 1, constantValue := 0 }, { name := "serialPersistentFields", type := (.array (.object "java/io/ObjectStreamField")), accessFlags := 26, slot := 2, constantValue := 0 }, { name := "REPL", type := .char, accessFlags := 26, slot := 3, constantValue := 0 }, { name := "CASE_INSENSITIVE_ORDER", type := (.object "java/util/Comparator"), accessFlags := 25, slot := 4, constantValue := 0 }, { name := "LATIN1", type := .byte, accessFlags := 24, slot := 5, constantValue := 0 }, { name := "UTF16", type := .byte, accessFlags := 24, slot := 6, constantValue := 0 }]
  methods := #[k7m0, k7m1, k7m2, k7m3, k7m4, k7m5, k7m6, k7m7]
  instanceTypes := #[(.array .byte), .byte, .int, .boolean]
  staticTypes := #[.long, .boolean, (.array (.object "java/io/ObjectStreamField")), .char, (.object "java/util/Comparator"), .byte, .byte]
  resolved := Array.replicate 1451 none
  statics := some 0 }

def pool8 : Array CpInfo := pool [(1, .methodref 2 3), (0, .class_ 4), (0, .nameAndType 5 6), (0, u "java/lang/Object"), (0, u "<init>"), (0, u "()V"), (0, .fieldref 8 9), (0, .class_ 10), (0, .nameAndType 11 12), (0, u "com/example/recaller/recaller/Lexer"), (0, u "text"), (0, u "Ljava/lang/String;"), (0, .fieldref 8 14), (0, .nameAndType 15 12), (0, u "subject"), (0, .methodref 8 17), (0, .nameAndType 18 6), (0, u "skipSpace"), (0, .fieldref 8 20), (0, .nameAndType 21 22), (0, u "position"), (0, u "I"), (0, .methodref 24 25), (0, .class_ 26), (0, .nameAndType 27 28), (0, u "java/lang/String"), (0, u "length"), (0, u "()I"), (0, .methodref 24 30), (0, .nameAndType 31 32), (0, u "charAt"), (0, u "(I)C"), (2, u "accept"), (0, u "(C)Z"), (136, u "TOKEN_MARKS"), (1, u "(Ljava/lang/String;Ljava/lang/String;)V"), (4, u "getPosition")] 56

def k8c0 : Code := { maxStack := 2, maxLocals := 3, code := prog_21_method_1_code, exceptionTable := #[], attributes := #[] }
def k8m0 : Method := { name := "<init>", desc := "(Ljava/lang/String;Ljava/lang/String;)V", sig := { parameters := [(.object "java/lang/String"), (.object "java/lang/String")], returnType := none }, accessFlags := 0, code := some k8c0 }
def k8c1 : Code := { maxStack := 1, maxLocals := 1, code := prog_21_method_3_code, exceptionTable := #[], attributes := #[] }
def k8m1 : Method := { name := "getPosition", desc := "()I", sig := { parameters := [], returnType := some .int }, accessFlags := 0, code := some k8c1 }
def k8c2 : Code := { maxStack := 3, maxLocals := 2, code := prog_21_method_4_code, exceptionTable := #[], attributes := #[] }
def k8m2 : Method := { name := "accept", desc := "(C)Z", sig := { parameters := [.char], returnType := some .boolean }, accessFlags := 0, code := some k8c2 }
def k8c3 : Code := { maxStack := 3, maxLocals := 1, code := prog_21_method_20_code, exceptionTable := #[], attributes := #[] }
def k8m3 : Method := { name := "skipSpace", desc := "()V", sig := { parameters := [], returnType := none }, accessFlags := 2, code := some k8c3 }
/-- com/example/recaller/recaller/Lexer -/
def k8 : Class := { plain "com/example/recaller/recaller/Lexer" (some 0) with
  accessFlags := 48
  interfaces := #[]
  cf := some (fileOf pool8 8 #[] #[{ accessFlags := 0, nameIndex := 5, descriptorIndex := 175, attributes := #[] }, { accessFlags := 0, nameIndex := 180, descriptorIndex := 28, attributes := #[] }, { accessFlags := 0, nameIndex := 35, descriptorIndex := 36, attributes := #[] }, { accessFlags := 2, nameIndex := 18, descriptorIndex := 6, attributes := #[] }] 48 2 #[] #[{ accessFlags := 26, nameIndex := 173, descriptorIndex := 12, attributes := #[] }, { accessFlags := 18, nameIndex := 11, descriptorIndex := 12, attributes := #[] }, { accessFlags := 18, nameIndex := 15, descriptorIndex := 12, attributes := #[] }, { accessFlags := 2, nameIndex := 21, descriptorIndex := 22, attributes := #[] }])
  fields := #[{ name := "TOKEN_MARKS", type := (.object "java/lang/String"), accessFlags := 26, slot := 0, constantValue := 0 }, { name := "text", type := (.object "java/lang/String"), accessFlags := 18, slot := 0, constantValue := 0 }, { name := "subject", type := (.object "java/lang/String"), accessFlags := 18, slot := 1, constantValue := 0 }, { name := "position", type := .int, accessFlags := 2, slot := 2, constantValue := 0 }]
  methods := #[k8m0, k8m1, k8m2, k8m3]
  instanceTypes := #[(.object "java/lang/String"), (.object "java/lang/String"), .int]
  staticTypes := #[(.object "java/lang/String")]
  resolved := Array.replicate 237 none
  statics := none }

def pool9 : Array CpInfo := pool [(3, .class_ 4), (0, u "java/lang/String"), (1, .class_ 8), (1, u "java/lang/Object"), (0, u "<init>"), (0, u "()V"), (0, .methodref 12 13), (0, .class_ 14), (0, .nameAndType 15 16), (0, u "java/lang/StringUTF16"), (0, u "newBytesLength"), (0, u "(I)I"), (3, .integer 1073741823), (23, .fieldref 12 45), (0, .nameAndType 46 47), (0, u "$assertionsDisabled"), (0, u "Z"), (0, .methodref 12 49), (0, .nameAndType 50 51), (0, u "length"), (0, u "([B)I"), (7, .fieldref 12 60), (0, .nameAndType 61 62), (0, u "HI_BYTE_SHIFT"), (0, u "I"), (0, .fieldref 12 64), (0, .nameAndType 65 62), (0, u "LO_BYTE_SHIFT"), (1, .methodref 12 68), (0, .nameAndType 69 70), (0, u "checkIndex"), (0, u "(I[B)V"), (0, .methodref 12 72), (0, .nameAndType 73 74), (0, u "getChar"), (0, u "([BI)C"), (32, .methodref 12 108), (0, .nameAndType 109 110), (0, u "newBytesFor"), (0, u "(I)[B"), (0, .methodref 12 112), (0, .nameAndType 113 114), (0, u "putChar"), (0, u "([BII)V"), (0, .methodref 12 116), (0, .nameAndType 117 118), (0, u "compress"), (0, u "([CI[BII)I"), (0, .methodref 12 120), (0, .nameAndType 121 122), (0, u "toBytes"), (0, u "([CII)[B"), (138, u "coderFromArrayLen"), (0, u "([BI)B"), (106, .class_ 371), (1, u "java/lang/StringUTF16$LinesSpliterator"), (20, u "charAt"), (21, .methodref 3 415), (0, .nameAndType 69 416), (0, u "(II)V"), (13, u "MAX_LENGTH"), (196, .class_ 628), (0, u "java/lang/StringUTF16$CodePointsSpliterator"), (0, .class_ 630), (0, u "java/lang/StringUTF16$CharsSpliterator")] 4

def k9m0 : Method := { name := "<init>", desc := "()V", sig := { parameters := [], returnType := none }, accessFlags := 0, code := none }
def k9c1 : Code := { maxStack := 1, maxLocals := 1, code := jdk_52_method_2_code, exceptionTable := #[], attributes := #[] }
def k9m1 : Method := { name := "newBytesFor", desc := "(I)[B", sig := { parameters := [.int], returnType := some (.array .byte) }, accessFlags := 9, code := some k9c1 }
def k9c2 : Code := { maxStack := 4, maxLocals := 1, code := jdk_52_method_3_code, exceptionTable := #[], attributes := #[] }
def k9m2 : Method := { name := "newBytesLength", desc := "(I)I", sig := { parameters := [.int], returnType := some .int }, accessFlags := 9, code := some k9c2 }
def k9c3 : Code := { maxStack := 4, maxLocals := 3, code := jdk_52_method_4_code, exceptionTable := #[], attributes := #[] }
def k9m3 : Method := { name := "putChar", desc := "([BII)V", sig := { parameters := [(.array .byte), .int, .int], returnType := none }, accessFlags := 8, code := some k9c3 }
def k9c4 : Code := { maxStack := 3, maxLocals := 2, code := jdk_52_method_5_code, exceptionTable := #[], attributes := #[] }
def k9m4 : Method := { name := "getChar", desc := "([BI)C", sig := { parameters := [(.array .byte), .int], returnType := some .char }, accessFlags := 8, code := some k9c4 }
def k9c5 : Code := { maxStack := 2, maxLocals := 1, code := jdk_52_method_6_code, exceptionTable := #[], attributes := #[] }
def k9m5 : Method := { name := "length", desc := "([B)I", sig := { parameters := [(.array .byte)], returnType := some .int }, accessFlags := 9, code := some k9c5 }
def k9c6 : Code := { maxStack := 4, maxLocals := 5, code := jdk_52_method_14_code, exceptionTable := #[], attributes := #[] }
def k9m6 : Method := { name := "toBytes", desc := "([CII)[B", sig := { parameters := [(.array .char), .int, .int], returnType := some (.array .byte) }, accessFlags := 9, code := some k9c6 }
def k9c7 : Code := { maxStack := 2, maxLocals := 2, code := jdk_52_method_15_code, exceptionTable := #[], attributes := #[] }
def k9m7 : Method := { name := "coderFromArrayLen", desc := "([BI)B", sig := { parameters := [(.array .byte), .int], returnType := some .byte }, accessFlags := 8, code := some k9c7 }
def k9c8 : Code := { maxStack := 5, maxLocals := 6, code := jdk_52_method_16_code, exceptionTable := #[], attributes := #[] }
def k9m8 : Method := { name := "compress", desc := "([CII)[B", sig := { parameters := [(.array .char), .int, .int], returnType := some (.array .byte) }, accessFlags := 9, code := some k9c8 }
def k9c9 : Code := { maxStack := 3, maxLocals := 7, code := jdk_52_method_21_code, exceptionTable := #[], attributes := #[] }
def k9m9 : Method := { name := "compress", desc := "([CI[BII)I", sig := { parameters := [(.array .char), .int, (.array .byte), .int, .int], returnType := some .int }, accessFlags := 9, code := some k9c9 }
def k9c10 : Code := { maxStack := 2, maxLocals := 2, code := jdk_52_method_83_code, exceptionTable := #[], attributes := #[] }
def k9m10 : Method := { name := "charAt", desc := "([BI)C", sig := { parameters := [(.array .byte), .int], returnType := some .char }, accessFlags := 9, code := some k9c10 }
def k9c11 : Code := { maxStack := 2, maxLocals := 2, code := jdk_52_method_91_code, exceptionTable := #[], attributes := #[] }
def k9m11 : Method := { name := "checkIndex", desc := "(I[B)V", sig := { parameters := [.int, (.array .byte)], returnType := none }, accessFlags := 9, code := some k9c11 }
/-- java/lang/StringUTF16 -/
def k9 : Class := { plain "java/lang/StringUTF16" (some 0) with
  accessFlags := 48
  interfaces := #[]
  cf := some (fileOf pool9 12 #[.nestMembers #[627, 629, 369]] #[{ accessFlags := 0, nameIndex := 9, descriptorIndex := 10, attributes := #[] }, { accessFlags := 9, nameIndex := 109, descriptorIndex := 110, attributes := #[] }, { accessFlags := 9, nameIndex := 15, descriptorIndex := 16, attributes := #[] }, { accessFlags := 8, nameIndex := 113, descriptorIndex := 114, attributes := #[] }, { accessFlags := 8, nameIndex := 73, descriptorIndex := 74, attributes := #[] }, { accessFlags := 9, nameIndex := 50, descriptorIndex := 51, attributes := #[] }, { accessFlags := 9, nameIndex := 121, descriptorIndex := 122, attributes := #[] }, { accessFlags := 8, nameIndex := 261, descriptorIndex := 262, attributes := #[] }, { accessFlags := 9, nameIndex := 117, descriptorIndex := 122, attributes := #[] }, { accessFlags := 9, nameIndex := 117, descriptorIndex := 118, attributes := #[] }, { accessFlags := 9, nameIndex := 392, descriptorIndex := 74, attributes := #[] }, { accessFlags := 9, nameIndex := 69, descriptorIndex := 70, attributes := #[] }] 48 6 #[] #[{ accessFlags := 26, nameIndex := 61, descriptorIndex := 62, attributes := #[] }, { accessFlags := 26, nameIndex := 65, descriptorIndex := 62, attributes := #[] }, { accessFlags := 24, nameIndex := 430, descriptorIndex := 62, attributes := #[] }, { accessFlags := 4120, nameIndex := 46, descriptorIndex := 47, attributes := #[] }])
  fields := #[{ name := "HI_BYTE_SHIFT", type := .int, accessFlags := 26, slot := 0, constantValue := 0 }, { name := "LO_BYTE_SHIFT", type := .int, accessFlags := 26, slot := 1, constantValue := 0 }, { name := "MAX_LENGTH", type := .int, accessFlags := 24, slot := 2, constantValue := 0 }, { name := "$assertionsDisabled", type := .boolean, accessFlags := 4120, slot := 3, constantValue := 0 }]
  methods := #[k9m0, k9m1, k9m2, k9m3, k9m4, k9m5, k9m6, k9m7, k9m8, k9m9, k9m10, k9m11]
  instanceTypes := #[]
  staticTypes := #[.int, .int, .int, .boolean]
  resolved := Array.replicate 635 none
  statics := some 1 }

def pool10 : Array CpInfo := pool [(1, .class_ 2), (0, u "java/lang/String"), (1, .class_ 6), (1, u "java/lang/Object"), (0, u "<init>"), (0, u "()V"), (0, .methodref 1 10), (0, .nameAndType 11 12), (0, u "checkIndex"), (0, u "(II)V"), (1, .class_ 16), (1, u "java/lang/StringLatin1"), (36, u "([BI)C"), (67, u "$assertionsDisabled"), (0, u "Z"), (98, .class_ 223), (1, u "java/lang/StringLatin1$LinesSpliterator"), (28, u "charAt"), (137, .class_ 391), (0, u "java/lang/StringLatin1$CharsSpliterator")] 3

def k10m0 : Method := { name := "<init>", desc := "()V", sig := { parameters := [], returnType := none }, accessFlags := 0, code := none }
def k10c1 : Code := { maxStack := 2, maxLocals := 2, code := jdk_43_method_2_code, exceptionTable := #[], attributes := #[] }
def k10m1 : Method := { name := "charAt", desc := "([BI)C", sig := { parameters := [(.array .byte), .int], returnType := some .char }, accessFlags := 9, code := some k10c1 }
/-- java/lang/StringLatin1 -/
def k10 : Class := { plain "java/lang/StringLatin1" (some 0) with
  accessFlags := 48
  interfaces := #[]
  cf := some (fileOf pool10 14 #[.nestMembers #[390, 221]] #[{ accessFlags := 0, nameIndex := 7, descriptorIndex := 8, attributes := #[] }, { accessFlags := 9, nameIndex := 252, descriptorIndex := 53, attributes := #[] }] 48 4 #[] #[{ accessFlags := 4120, nameIndex := 121, descriptorIndex := 122, attributes := #[] }])
  fields := #[{ name := "$assertionsDisabled", type := .boolean, accessFlags := 4120, slot := 0, constantValue := 0 }]
  methods := #[k10m0, k10m1]
  instanceTypes := #[]
  staticTypes := #[.boolean]
  resolved := Array.replicate 395 none
  statics := none }

def pool11 : Array CpInfo := pool [(2, .class_ 4), (1, u "java/lang/Object"), (0, u "<init>"), (0, u "()V"), (17, .class_ 26), (1, u "jdk/internal/util/Preconditions"), (6, u "checkIndex"), (21, .class_ 56), (0, u "jdk/internal/util/Preconditions$4"), (57, .class_ 115), (0, u "jdk/internal/util/Preconditions$1"), (7, u "SIOOBE_FORMATTER"), (0, u "Ljava/util/function/BiFunction;"), (0, .class_ 126), (0, u "jdk/internal/util/Preconditions$2"), (3, u "AIOOBE_FORMATTER"), (0, .class_ 132), (0, u "jdk/internal/util/Preconditions$3"), (3, u "IOOBE_FORMATTER"), (41, u "(IILjava/util/function/BiFunction;)I")] 15

def k11m0 : Method := { name := "<init>", desc := "()V", sig := { parameters := [], returnType := none }, accessFlags := 1, code := none }
def k11c1 : Code := { maxStack := 3, maxLocals := 3, code := jdk_41_method_11_code, exceptionTable := #[], attributes := #[] }
def k11m1 : Method := { name := "checkIndex", desc := "(IILjava/util/function/BiFunction;)I", sig := { parameters := [.int, .int, (.object "java/util/function/BiFunction")], returnType := some .int }, accessFlags := 9, code := some k11c1 }
/-- jdk/internal/util/Preconditions -/
def k11 : Class := { plain "jdk/internal/util/Preconditions" (some 0) with
  accessFlags := 33
  interfaces := #[]
  cf := some (fileOf pool11 24 #[.nestMembers #[55, 131, 125, 114]] #[{ accessFlags := 1, nameIndex := 5, descriptorIndex := 6, attributes := #[] }, { accessFlags := 9, nameIndex := 33, descriptorIndex := 178, attributes := #[] }] 33 2 #[] #[{ accessFlags := 25, nameIndex := 123, descriptorIndex := 124, attributes := #[] }, { accessFlags := 25, nameIndex := 130, descriptorIndex := 124, attributes := #[] }, { accessFlags := 25, nameIndex := 136, descriptorIndex := 124, attributes := #[] }])
  fields := #[{ name := "SIOOBE_FORMATTER", type := (.object "java/util/function/BiFunction"), accessFlags := 25, slot := 0, constantValue := 0 }, { name := "AIOOBE_FORMATTER", type := (.object "java/util/function/BiFunction"), accessFlags := 25, slot := 1, constantValue := 0 }, { name := "IOOBE_FORMATTER", type := (.object "java/util/function/BiFunction"), accessFlags := 25, slot := 2, constantValue := 0 }]
  methods := #[k11m0, k11m1]
  instanceTypes := #[]
  staticTypes := #[(.object "java/util/function/BiFunction"), (.object "java/util/function/BiFunction"), (.object "java/util/function/BiFunction")]
  resolved := Array.replicate 194 none
  statics := some 2 }

def pool12 : Array CpInfo := pool [(9, u "<init>"), (6, .class_ 18), (1, u "java/lang/Object"), (0, u "()V"), (1, .class_ 23), (1, u "jdk/internal/util/ArraysSupport"), (0, u "LOG2_ARRAY_LONG_INDEX_SCALE"), (0, u "I"), (2, u "U"), (0, u "Ljdk/internal/misc/Unsafe;"), (8, u "BIG_ENDIAN"), (0, u "Z"), (8, u "LOG2_BYTE_BIT_SIZE"), (4, u "LOG2_ARRAY_INT_INDEX_SCALE"), (54, u "JLA"), (0, u "Ljdk/internal/access/JavaLangAccess;"), (11, u "LOG2_ARRAY_BOOLEAN_INDEX_SCALE"), (9, u "LOG2_ARRAY_BYTE_INDEX_SCALE"), (5, u "LOG2_ARRAY_CHAR_INDEX_SCALE"), (5, u "LOG2_ARRAY_SHORT_INDEX_SCALE"), (18, u "LOG2_ARRAY_FLOAT_INDEX_SCALE"), (24, u "LOG2_ARRAY_DOUBLE_INDEX_SCALE"), (89, u "T_BOOLEAN"), (2, u "T_CHAR"), (1, u "T_FLOAT"), (1, u "T_DOUBLE"), (1, u "T_BYTE"), (1, u "T_SHORT"), (1, u "T_INT"), (1, u "T_LONG"), (1, u "SOFT_MAX_ARRAY_LENGTH")] 83

def k12m0 : Method := { name := "<init>", desc := "()V", sig := { parameters := [], returnType := none }, accessFlags := 2, code := none }
/-- jdk/internal/util/ArraysSupport -/
def k12 : Class := { plain "jdk/internal/util/ArraysSupport" (some 0) with
  accessFlags := 33
  interfaces := #[]
  cf := some (fileOf pool12 21 #[] #[{ accessFlags := 2, nameIndex := 9, descriptorIndex := 19, attributes := #[] }] 33 16 #[] #[{ accessFlags := 24, nameIndex := 28, descriptorIndex := 29, attributes := #[] }, { accessFlags := 26, nameIndex := 38, descriptorIndex := 39, attributes := #[] }, { accessFlags := 25, nameIndex := 121, descriptorIndex := 25, attributes := #[] }, { accessFlags := 25, nameIndex := 131, descriptorIndex := 25, attributes := #[] }, { accessFlags := 25, nameIndex := 137, descriptorIndex := 25, attributes := #[] }, { accessFlags := 25, nameIndex := 143, descriptorIndex := 25, attributes := #[] }, { accessFlags := 25, nameIndex := 53, descriptorIndex := 25, attributes := #[] }, { accessFlags := 25, nameIndex := 24, descriptorIndex := 25, attributes := #[] }, { accessFlags := 25, nameIndex := 162, descriptorIndex := 25, attributes := #[] }, { accessFlags := 25, nameIndex := 187, descriptorIndex := 25, attributes := #[] }, { accessFlags := 26, nameIndex := 48, descriptorIndex := 25, attributes := #[] }, { accessFlags := 25, nameIndex := 277, descriptorIndex := 25, attributes := #[] }, { accessFlags := 25, nameIndex := 280, descriptorIndex := 25, attributes := #[] }, { accessFlags := 25, nameIndex := 282, descriptorIndex := 25, attributes := #[] }, { accessFlags := 25, nameIndex := 284, descriptorIndex := 25, attributes := #[] }, { accessFlags := 25, nameIndex := 286, descriptorIndex := 25, attributes := #[] }, { accessFlags := 25, nameIndex := 288, descriptorIndex := 25, attributes := #[] }, { accessFlags := 25, nameIndex := 290, descriptorIndex := 25, attributes := #[] }, { accessFlags := 25, nameIndex := 292, descriptorIndex := 25, attributes := #[] }, { accessFlags := 26, nameIndex := 108, descriptorIndex := 109, attributes := #[] }, { accessFlags := 25, nameIndex := 294, descriptorIndex := 25, attributes := #[] }])
  fields := #[{ name := "U", type := (.object "jdk/internal/misc/Unsafe"), accessFlags := 24, slot := 0, constantValue := 0 }, { name := "BIG_ENDIAN", type := .boolean, accessFlags := 26, slot := 1, constantValue := 0 }, { name := "LOG2_ARRAY_BOOLEAN_INDEX_SCALE", type := .int, accessFlags := 25, slot := 2, constantValue := 0 }, { name := "LOG2_ARRAY_BYTE_INDEX_SCALE", type := .int, accessFlags := 25, slot := 3, constantValue := 0 }, { name := "LOG2_ARRAY_CHAR_INDEX_SCALE", type := .int, accessFlags := 25, slot := 4, constantValue := 0 }, { name := "LOG2_ARRAY_SHORT_INDEX_SCALE", type := .int, accessFlags := 25, slot := 5, constantValue := 0 }, { name := "LOG2_ARRAY_INT_INDEX_SCALE", type := .int, accessFlags := 25, slot := 6, constantValue := 0 }, { name := "LOG2_ARRAY_LONG_INDEX_SCALE", type := .int, accessFlags := 25, slot := 7, constantValue := 0 }, { name := "LOG2_ARRAY_FLOAT_INDEX_SCALE", type := .int, accessFlags := 25, slot := 8, constantValue := 0 }, { name := "LOG2_ARRAY_DOUBLE_INDEX_SCALE", type := .int, accessFlags := 25, slot := 9, constantValue := 0 }, { name := "LOG2_BYTE_BIT_SIZE", type := .int, accessFlags := 26, slot := 10, constantValue := 0 }, { name := "T_BOOLEAN", type := .int, accessFlags := 25, slot := 11, constantValue := 0 }, { name := "T_CHAR", type := .int, accessFlags := 25, slot := 12, constantValue := 0 }, { name := "T_FLOAT", type := .int, accessFlags := 25, slot := 13, constantValue := 0 }, { name := "T_DOUBLE", type := .int, accessFlags := 25, slot := 14, constantValue := 0 }, { name := "T_BYTE", type := .int, accessFlags := 25, slot := 15, constantValue := 0 }, { name := "T_SHORT", type := .int, accessFlags := 25, slot := 16, constantValue := 0 }, { name := "T_INT", type := .int, accessFlags := 25, slot := 17, constantValue := 0 }, { name := "T_LONG", type := .int, accessFlags := 25, slot := 18, constantValue := 0 }, { name := "JLA", type := (.object "jdk/internal/access/JavaLangAccess"), accessFlags := 26, slot := 19, constantValue := 0 }, { name := "SOFT_MAX_ARRAY_LENGTH", type := .int, accessFlags := 25, slot := 20, constantValue := 0 }]
  methods := #[k12m0]
  instanceTypes := #[]
  staticTypes := #[(.object "jdk/internal/misc/Unsafe"), .boolean, .int, .int, .int, .int, .int, .int, .int, .int, .int, .int, .int, .int, .int, .int, .int, .int, .int, (.object "jdk/internal/access/JavaLangAccess"), .int]
  resolved := Array.replicate 378 none
  statics := none }

def pool13 : Array CpInfo := pool [(1, u "java/lang/Cloneable"), (0, .class_ 1), (0, u "java/lang/Object"), (0, .class_ 3)] 3

/-- java/lang/Cloneable -/
def k13 : Class := { plain "java/lang/Cloneable" (some 0) with
  accessFlags := 1537
  interfaces := #[]
  cf := some (fileOf pool13 2 #[] #[] 1537 4 #[] #[])
  fields := #[]
  methods := #[]
  instanceTypes := #[]
  staticTypes := #[]
  resolved := Array.replicate 8 none
  statics := none }

/-- the primitive byte -/
def k14 : Class := { plain "byte" none with kind := .primitive 'B', accessFlags := 0x411 }
/-- [B -/
def k15 : Class := { plain "[B" (some 0) with kind := .array 14 .byte, interfaces := #[13, 2], accessFlags := 1041 }

/-- the primitive char -/
def k16 : Class := { plain "char" none with kind := .primitive 'C', accessFlags := 0x411 }
/-- [C -/
def k17 : Class := { plain "[C" (some 0) with kind := .array 16 .char, interfaces := #[13, 2], accessFlags := 1041 }

/-- the primitive int -/
def k18 : Class := { plain "int" none with kind := .primitive 'I', accessFlags := 0x411 }
/-- [I -/
def k19 : Class := { plain "[I" (some 0) with kind := .array 18 .int, interfaces := #[13, 2], accessFlags := 1041 }

def heap : Heap := #[{ cls := 7, slots := #[.long 0, .int 1, .null, .int 0, .null, .int 0, .int 0], vm := .statics 7 },
  { cls := 9, slots := #[.int 0, .int 8, .int 0, .int 1], vm := .statics 9 },
  { cls := 11, slots := #[.null, .null, .null], vm := .statics 11 }]
def classes : Array Class := #[k0, k1, k2, k3, k4, k5, k6, k7, k8, k9, k10, k11, k12, k13, k14, k15, k16, k17, k18, k19]
def interned : List (Array UInt16 × Addr) := []
def slotsUsed : Nat := 14
def theMethod : MethodId := ⟨1, 4⟩
def args0 : Array Value := #[.int 2, .int 66, .int 67, .int 3, .int 7, .int 5]
def aboutOver (below : List Frame) : State where
  vm := { classes := classes, interned := interned.toArray }
  heap := heap
  slotsUsed := slotsUsed
  threads := #[{ frames := .invoking theMethod args0 :: below }]
def below0 : List Frame := [.native { method := ⟨0, 0⟩, args := #[] }]
def about1 : State := aboutOver below0
def p0 : Program := .bare "" "" ""
def e0 : Env := launch0.env 0 0 0
theorem w_frames : about1.frames = Frame.invoking theMethod args0 :: below0 := rfl
set_option maxRecDepth 65536 in
theorem w_args : argsFit about1.vm theMethod args0 = true := by decide +kernel
set_option maxRecDepth 65536 in
theorem w_heap : heapFits about1 = true := by decide +kernel
set_option maxRecDepth 65536 in
theorem w_runnable : about1.curStatus? = some .runnable := by decide +kernel
set_option maxRecDepth 65536 in
theorem w_alone : about1.alone = true := by decide +kernel
set_option maxRecDepth 65536 in
theorem w_named : about1.methodNamed? x = some theMethod := by decide +kernel
set_option maxRecDepth 65536 in
theorem w_hears : about1.hears theMethod below0 = true := by decide +kernel
set_option maxRecDepth 65536 in
theorem w_ripe : about1.ripe theMethod args0 below0 = true := by decide +kernel
theorem w_running : about1.status = .running := rfl
set_option maxRecDepth 65536 in
theorem w_room : about1.hasRoom e0.platform room_1 = true :=
  launch0.hasRoom_least _ room_1 (by decide +kernel) (by decide +kernel) (by decide +kernel) (by decide +kernel) (by decide +kernel) (by decide +kernel)
theorem allAtoms_all (ts : List Jvm.Cond) (a : Array Jvm.Value) (st : Jvm.State) : (allAtoms ts).before a st = ts.all (fun c => c.before a st) := by
  induction ts with
  | nil => rfl
  | cons c t ih =>
    show (Jvm.Cond.and c (allAtoms t)).before a st = _
    rw [Jvm.Cond.before_and, ih, List.all_cons]
def words1 : List Jvm.Cond := Jvm.Cond.code x code maxLocals ret :: tables_1
/-- a 'code' word, met by the world's own term for the bytes: nothing is compared byte by byte -/
theorem code_word {y : MethodName} {bytes : ByteArray} {mx : Nat} {rt : Option FieldType} {a : Array Value} {s : State} {m : MethodId} {meth : Method} {c : Code} (h1 : s.methodNamed? y = some m) (h2 : s.vm.method? m = some meth) (h3 : meth.code = some c) (h4 : c.code = bytes)
    (h5 : (c.maxLocals == mx && c.exceptionTable.isEmpty && decide (c.maxStack ≤ mostOperands) && decide (meth.sig.returnType = rt) && !meth.locks && decide (parseMethodDescriptor y.desc = some meth.sig)) = true) : (Jvm.Cond.code y bytes mx rt).before a s = true := by
  simp only [Bool.and_eq_true, beq_iff_eq, Bool.not_eq_true', decide_eq_true_eq] at h5
  obtain ⟨⟨⟨⟨⟨g1, g2⟩, g3⟩, g4⟩, g5⟩, g6⟩ := h5
  simp [Cond.before, Cond.holds, Cond.value, h1, h2, h3, h4, g1, g2, g3, g4, g5, g6]
def isCode : Jvm.Cond → Bool
  | .code _ _ _ _ => true
  | _ => false
theorem all_split {L : List Jvm.Cond} {P : Jvm.Cond → Bool} (h1 : L.all (fun c => isCode c || P c) = true) (h2 : ∀ c ∈ L.filter isCode, P c = true) : L.all P = true := by
  refine List.all_eq_true.mpr fun c hc => ?_
  have h := List.all_eq_true.mp h1 c hc
  rcases Bool.eq_false_or_eq_true (isCode c) with hi | hi
  · exact h2 c (List.mem_filter.mpr ⟨hc, hi⟩)
  · simpa [hi] using h
set_option maxRecDepth 65536 in
theorem w_c0 : (Jvm.Cond.code x code maxLocals ret).before args0 about1 = true := code_word (m := ⟨1, 4⟩) (meth := k1m4) (c := k1c4) (by decide +kernel) rfl rfl rfl (by decide +kernel)
set_option maxRecDepth 65536 in
theorem w_c1 : (Jvm.Cond.code ({ cls := "com/example/recaller/recaller/LexerAcceptPinLaw", name := "mk", desc := "(IICC)C" } : Jvm.MethodName) method_2_code (4 : Nat) (Option.some Jvm.ClassFile.FieldType.char)).before args0 about1 = true := code_word (m := ⟨1, 1⟩) (meth := k1m1) (c := k1c1) (by decide +kernel) rfl rfl rfl (by decide +kernel)
set_option maxRecDepth 65536 in
theorem w_c2 : (Jvm.Cond.code ({ cls := "java/lang/String", name := "<init>", desc := "([C)V" } : Jvm.MethodName) jdk_42_method_3_code (2 : Nat) (Option.none : Option Jvm.ClassFile.FieldType)).before args0 about1 = true := code_word (m := ⟨7, 1⟩) (meth := k7m1) (c := k7c1) (by decide +kernel) rfl rfl rfl (by decide +kernel)
set_option maxRecDepth 65536 in
theorem w_c3 : (Jvm.Cond.code ({ cls := "java/lang/String", name := "<init>", desc := "([CIILjava/lang/Void;)V" } : Jvm.MethodName) jdk_42_method_149_code (6 : Nat) (Option.none : Option Jvm.ClassFile.FieldType)).before args0 about1 = true := code_word (m := ⟨7, 4⟩) (meth := k7m4) (c := k7c4) (by decide +kernel) rfl rfl rfl (by decide +kernel)
set_option maxRecDepth 65536 in
theorem w_c4 : (Jvm.Cond.code ({ cls := "java/lang/Object", name := "<init>", desc := "()V" } : Jvm.MethodName) object_method_1_code (1 : Nat) (Option.none : Option Jvm.ClassFile.FieldType)).before args0 about1 = true := code_word (m := ⟨0, 0⟩) (meth := k0m0) (c := k0c0) (by decide +kernel) rfl rfl rfl (by decide +kernel)
set_option maxRecDepth 65536 in
theorem w_c5 : (Jvm.Cond.code ({ cls := "com/example/recaller/recaller/Lexer", name := "<init>", desc := "(Ljava/lang/String;Ljava/lang/String;)V" } : Jvm.MethodName) prog_21_method_1_code (3 : Nat) (Option.none : Option Jvm.ClassFile.FieldType)).before args0 about1 = true := code_word (m := ⟨8, 0⟩) (meth := k8m0) (c := k8c0) (by decide +kernel) rfl rfl rfl (by decide +kernel)
set_option maxRecDepth 65536 in
theorem w_c6 : (Jvm.Cond.code ({ cls := "com/example/recaller/recaller/Lexer", name := "accept", desc := "(C)Z" } : Jvm.MethodName) prog_21_method_4_code (2 : Nat) (Option.some Jvm.ClassFile.FieldType.boolean)).before args0 about1 = true := code_word (m := ⟨8, 2⟩) (meth := k8m2) (c := k8c2) (by decide +kernel) rfl rfl rfl (by decide +kernel)
set_option maxRecDepth 65536 in
theorem w_c7 : (Jvm.Cond.code ({ cls := "com/example/recaller/recaller/Lexer", name := "skipSpace", desc := "()V" } : Jvm.MethodName) prog_21_method_20_code (1 : Nat) (Option.none : Option Jvm.ClassFile.FieldType)).before args0 about1 = true := code_word (m := ⟨8, 3⟩) (meth := k8m3) (c := k8c3) (by decide +kernel) rfl rfl rfl (by decide +kernel)
set_option maxRecDepth 65536 in
theorem w_c8 : (Jvm.Cond.code ({ cls := "java/lang/String", name := "length", desc := "()I" } : Jvm.MethodName) jdk_42_method_54_code (1 : Nat) (Option.some Jvm.ClassFile.FieldType.int)).before args0 about1 = true := code_word (m := ⟨7, 2⟩) (meth := k7m2) (c := k7c2) (by decide +kernel) rfl rfl rfl (by decide +kernel)
set_option maxRecDepth 65536 in
theorem w_c9 : (Jvm.Cond.code ({ cls := "java/lang/String", name := "coder", desc := "()B" } : Jvm.MethodName) jdk_42_method_152_code (1 : Nat) (Option.some Jvm.ClassFile.FieldType.byte)).before args0 about1 = true := code_word (m := ⟨7, 5⟩) (meth := k7m5) (c := k7c5) (by decide +kernel) rfl rfl rfl (by decide +kernel)
set_option maxRecDepth 65536 in
theorem w_c10 : (Jvm.Cond.code ({ cls := "com/example/recaller/recaller/Lexer", name := "getPosition", desc := "()I" } : Jvm.MethodName) prog_21_method_3_code (1 : Nat) (Option.some Jvm.ClassFile.FieldType.int)).before args0 about1 = true := code_word (m := ⟨8, 1⟩) (meth := k8m1) (c := k8c1) (by decide +kernel) rfl rfl rfl (by decide +kernel)
set_option maxRecDepth 65536 in
theorem w_c11 : (Jvm.Cond.code ({ cls := "com/example/recaller/recaller/LexerAcceptPinLaw", name := "skip", desc := "([CII)I" } : Jvm.MethodName) method_4_code (4 : Nat) (Option.some Jvm.ClassFile.FieldType.int)).before args0 about1 = true := code_word (m := ⟨1, 3⟩) (meth := k1m3) (c := k1c3) (by decide +kernel) rfl rfl rfl (by decide +kernel)
set_option maxRecDepth 65536 in
theorem w_c12 : (Jvm.Cond.code ({ cls := "com/example/recaller/recaller/LexerAcceptPinLaw", name := "step", desc := "([CII)I" } : Jvm.MethodName) method_3_code (3 : Nat) (Option.some Jvm.ClassFile.FieldType.int)).before args0 about1 = true := code_word (m := ⟨1, 2⟩) (meth := k1m2) (c := k1c2) (by decide +kernel) rfl rfl rfl (by decide +kernel)
set_option maxRecDepth 65536 in
theorem w_c13 : (Jvm.Cond.code ({ cls := "java/lang/StringUTF16", name := "compress", desc := "([CII)[B" } : Jvm.MethodName) jdk_52_method_16_code (6 : Nat) (Option.some (Jvm.ClassFile.FieldType.array Jvm.ClassFile.FieldType.byte))).before args0 about1 = true := code_word (m := ⟨9, 8⟩) (meth := k9m8) (c := k9c8) (by decide +kernel) rfl rfl rfl (by decide +kernel)
set_option maxRecDepth 65536 in
theorem w_c14 : (Jvm.Cond.code ({ cls := "java/lang/StringUTF16", name := "compress", desc := "([CI[BII)I" } : Jvm.MethodName) jdk_52_method_21_code (7 : Nat) (Option.some Jvm.ClassFile.FieldType.int)).before args0 about1 = true := code_word (m := ⟨9, 9⟩) (meth := k9m9) (c := k9c9) (by decide +kernel) rfl rfl rfl (by decide +kernel)
set_option maxRecDepth 65536 in
theorem w_c15 : (Jvm.Cond.code ({ cls := "java/lang/StringUTF16", name := "coderFromArrayLen", desc := "([BI)B" } : Jvm.MethodName) jdk_52_method_15_code (2 : Nat) (Option.some Jvm.ClassFile.FieldType.byte)).before args0 about1 = true := code_word (m := ⟨9, 7⟩) (meth := k9m7) (c := k9c7) (by decide +kernel) rfl rfl rfl (by decide +kernel)
set_option maxRecDepth 65536 in
theorem w_c16 : (Jvm.Cond.code ({ cls := "java/lang/String", name := "charAt", desc := "(I)C" } : Jvm.MethodName) jdk_42_method_56_code (2 : Nat) (Option.some Jvm.ClassFile.FieldType.char)).before args0 about1 = true := code_word (m := ⟨7, 3⟩) (meth := k7m3) (c := k7c3) (by decide +kernel) rfl rfl rfl (by decide +kernel)
set_option maxRecDepth 65536 in
theorem w_c17 : (Jvm.Cond.code ({ cls := "java/lang/String", name := "isLatin1", desc := "()Z" } : Jvm.MethodName) jdk_42_method_154_code (1 : Nat) (Option.some Jvm.ClassFile.FieldType.boolean)).before args0 about1 = true := code_word (m := ⟨7, 6⟩) (meth := k7m6) (c := k7c6) (by decide +kernel) rfl rfl rfl (by decide +kernel)
set_option maxRecDepth 65536 in
theorem w_c18 : (Jvm.Cond.code ({ cls := "java/lang/StringLatin1", name := "charAt", desc := "([BI)C" } : Jvm.MethodName) jdk_43_method_2_code (2 : Nat) (Option.some Jvm.ClassFile.FieldType.char)).before args0 about1 = true := code_word (m := ⟨10, 1⟩) (meth := k10m1) (c := k10c1) (by decide +kernel) rfl rfl rfl (by decide +kernel)
set_option maxRecDepth 65536 in
theorem w_c19 : (Jvm.Cond.code ({ cls := "java/lang/String", name := "checkIndex", desc := "(II)V" } : Jvm.MethodName) jdk_42_method_155_code (2 : Nat) (Option.none : Option Jvm.ClassFile.FieldType)).before args0 about1 = true := code_word (m := ⟨7, 7⟩) (meth := k7m7) (c := k7c7) (by decide +kernel) rfl rfl rfl (by decide +kernel)
set_option maxRecDepth 65536 in
theorem w_c20 : (Jvm.Cond.code ({ cls := "jdk/internal/util/Preconditions", name := "checkIndex", desc := "(IILjava/util/function/BiFunction;)I" } : Jvm.MethodName) jdk_41_method_11_code (3 : Nat) (Option.some Jvm.ClassFile.FieldType.int)).before args0 about1 = true := code_word (m := ⟨11, 1⟩) (meth := k11m1) (c := k11c1) (by decide +kernel) rfl rfl rfl (by decide +kernel)
set_option maxRecDepth 65536 in
theorem w_c21 : (Jvm.Cond.code ({ cls := "java/lang/StringUTF16", name := "toBytes", desc := "([CII)[B" } : Jvm.MethodName) jdk_52_method_14_code (5 : Nat) (Option.some (Jvm.ClassFile.FieldType.array Jvm.ClassFile.FieldType.byte))).before args0 about1 = true := code_word (m := ⟨9, 6⟩) (meth := k9m6) (c := k9c6) (by decide +kernel) rfl rfl rfl (by decide +kernel)
set_option maxRecDepth 65536 in
theorem w_c22 : (Jvm.Cond.code ({ cls := "java/lang/StringUTF16", name := "newBytesFor", desc := "(I)[B" } : Jvm.MethodName) jdk_52_method_2_code (1 : Nat) (Option.some (Jvm.ClassFile.FieldType.array Jvm.ClassFile.FieldType.byte))).before args0 about1 = true := code_word (m := ⟨9, 1⟩) (meth := k9m1) (c := k9c1) (by decide +kernel) rfl rfl rfl (by decide +kernel)
set_option maxRecDepth 65536 in
theorem w_c23 : (Jvm.Cond.code ({ cls := "java/lang/StringUTF16", name := "newBytesLength", desc := "(I)I" } : Jvm.MethodName) jdk_52_method_3_code (1 : Nat) (Option.some Jvm.ClassFile.FieldType.int)).before args0 about1 = true := code_word (m := ⟨9, 2⟩) (meth := k9m2) (c := k9c2) (by decide +kernel) rfl rfl rfl (by decide +kernel)
set_option maxRecDepth 65536 in
theorem w_c24 : (Jvm.Cond.code ({ cls := "java/lang/StringUTF16", name := "putChar", desc := "([BII)V" } : Jvm.MethodName) jdk_52_method_4_code (3 : Nat) (Option.none : Option Jvm.ClassFile.FieldType)).before args0 about1 = true := code_word (m := ⟨9, 3⟩) (meth := k9m3) (c := k9c3) (by decide +kernel) rfl rfl rfl (by decide +kernel)
set_option maxRecDepth 65536 in
theorem w_c25 : (Jvm.Cond.code ({ cls := "java/lang/StringUTF16", name := "getChar", desc := "([BI)C" } : Jvm.MethodName) jdk_52_method_5_code (2 : Nat) (Option.some Jvm.ClassFile.FieldType.char)).before args0 about1 = true := code_word (m := ⟨9, 4⟩) (meth := k9m4) (c := k9c4) (by decide +kernel) rfl rfl rfl (by decide +kernel)
set_option maxRecDepth 65536 in
theorem w_c26 : (Jvm.Cond.code ({ cls := "java/lang/StringUTF16", name := "charAt", desc := "([BI)C" } : Jvm.MethodName) jdk_52_method_83_code (2 : Nat) (Option.some Jvm.ClassFile.FieldType.char)).before args0 about1 = true := code_word (m := ⟨9, 10⟩) (meth := k9m10) (c := k9c10) (by decide +kernel) rfl rfl rfl (by decide +kernel)
set_option maxRecDepth 65536 in
theorem w_c27 : (Jvm.Cond.code ({ cls := "java/lang/StringUTF16", name := "checkIndex", desc := "(I[B)V" } : Jvm.MethodName) jdk_52_method_91_code (2 : Nat) (Option.none : Option Jvm.ClassFile.FieldType)).before args0 about1 = true := code_word (m := ⟨9, 11⟩) (meth := k9m11) (c := k9c11) (by decide +kernel) rfl rfl rfl (by decide +kernel)
set_option maxRecDepth 65536 in
theorem w_c28 : (Jvm.Cond.code ({ cls := "java/lang/StringUTF16", name := "length", desc := "([B)I" } : Jvm.MethodName) jdk_52_method_6_code (1 : Nat) (Option.some Jvm.ClassFile.FieldType.int)).before args0 about1 = true := code_word (m := ⟨9, 5⟩) (meth := k9m5) (c := k9c5) (by decide +kernel) rfl rfl rfl (by decide +kernel)
def codes1 : List Jvm.Cond := [Jvm.Cond.code x code maxLocals ret, Jvm.Cond.code ({ cls := "com/example/recaller/recaller/LexerAcceptPinLaw", name := "mk", desc := "(IICC)C" } : Jvm.MethodName) method_2_code (4 : Nat) (Option.some Jvm.ClassFile.FieldType.char), Jvm.Cond.code ({ cls := "java/lang/String", name := "<init>", desc := "([C)V" } : Jvm.MethodName) jdk_42_method_3_code (2 : Nat) (Option.none : Option Jvm.ClassFile.FieldType), Jvm.Cond.code ({ cls := "java/lang/String", name := "<init>", desc := "([CIILjava/lang/Void;)V" } : Jvm.MethodName) jdk_42_method_149_code (6 : Nat) (Option.none : Option Jvm.ClassFile.FieldType), Jvm.Cond.code ({ cls := "java/lang/Object", name := "<init>", desc := "()V" } : Jvm.MethodName) object_method_1_code (1 : Nat) (Option.none : Option Jvm.ClassFile.FieldType), Jvm.Cond.code ({ cls := "com/example/recaller/recaller/Lexer", name := "<init>", desc := "(Ljava/lang/String;Ljava/lang/String;)V" } : Jvm.MethodName) prog_21_method_1_code (3 : Nat) (Option.none : Option Jvm.ClassFile.FieldType), Jvm.Cond.code ({ cls := "com/example/recaller/recaller/Lexer", name := "accept", desc := "(C)Z" } : Jvm.MethodName) prog_21_method_4_code (2 : Nat) (Option.some Jvm.ClassFile.FieldType.boolean), Jvm.Cond.code ({ cls := "com/example/recaller/recaller/Lexer", name := "skipSpace", desc := "()V" } : Jvm.MethodName) prog_21_method_20_code (1 : Nat) (Option.none : Option Jvm.ClassFile.FieldType), Jvm.Cond.code ({ cls := "java/lang/String", name := "length", desc := "()I" } : Jvm.MethodName) jdk_42_method_54_code (1 : Nat) (Option.some Jvm.ClassFile.FieldType.int), Jvm.Cond.code ({ cls := "java/lang/String", name := "coder", desc := "()B" } : Jvm.MethodName) jdk_42_method_152_code (1 : Nat) (Option.some Jvm.ClassFile.FieldType.byte), Jvm.Cond.code ({ cls := "com/example/recaller/recaller/Lexer", name := "getPosition", desc := "()I" } : Jvm.MethodName) prog_21_method_3_code (1 : Nat) (Option.some Jvm.ClassFile.FieldType.int), Jvm.Cond.code ({ cls := "com/example/recaller/recaller/LexerAcceptPinLaw", name := "skip", desc := "([CII)I" } : Jvm.MethodName) method_4_code (4 : Nat) (Option.some Jvm.ClassFile.FieldType.int), Jvm.Cond.code ({ cls := "com/example/recaller/recaller/LexerAcceptPinLaw", name := "step", desc := "([CII)I" } : Jvm.MethodName) method_3_code (3 : Nat) (Option.some Jvm.ClassFile.FieldType.int), Jvm.Cond.code ({ cls := "java/lang/StringUTF16", name := "compress", desc := "([CII)[B" } : Jvm.MethodName) jdk_52_method_16_code (6 : Nat) (Option.some (Jvm.ClassFile.FieldType.array Jvm.ClassFile.FieldType.byte)), Jvm.Cond.code ({ cls := "java/lang/StringUTF16", name := "compress", desc := "([CI[BII)I" } : Jvm.MethodName) jdk_52_method_21_code (7 : Nat) (Option.some Jvm.ClassFile.FieldType.int), Jvm.Cond.code ({ cls := "java/lang/StringUTF16", name := "coderFromArrayLen", desc := "([BI)B" } : Jvm.MethodName) jdk_52_method_15_code (2 : Nat) (Option.some Jvm.ClassFile.FieldType.byte), Jvm.Cond.code ({ cls := "java/lang/String", name := "charAt", desc := "(I)C" } : Jvm.MethodName) jdk_42_method_56_code (2 : Nat) (Option.some Jvm.ClassFile.FieldType.char), Jvm.Cond.code ({ cls := "java/lang/String", name := "isLatin1", desc := "()Z" } : Jvm.MethodName) jdk_42_method_154_code (1 : Nat) (Option.some Jvm.ClassFile.FieldType.boolean), Jvm.Cond.code ({ cls := "java/lang/StringLatin1", name := "charAt", desc := "([BI)C" } : Jvm.MethodName) jdk_43_method_2_code (2 : Nat) (Option.some Jvm.ClassFile.FieldType.char), Jvm.Cond.code ({ cls := "java/lang/String", name := "checkIndex", desc := "(II)V" } : Jvm.MethodName) jdk_42_method_155_code (2 : Nat) (Option.none : Option Jvm.ClassFile.FieldType), Jvm.Cond.code ({ cls := "jdk/internal/util/Preconditions", name := "checkIndex", desc := "(IILjava/util/function/BiFunction;)I" } : Jvm.MethodName) jdk_41_method_11_code (3 : Nat) (Option.some Jvm.ClassFile.FieldType.int), Jvm.Cond.code ({ cls := "java/lang/StringUTF16", name := "toBytes", desc := "([CII)[B" } : Jvm.MethodName) jdk_52_method_14_code (5 : Nat) (Option.some (Jvm.ClassFile.FieldType.array Jvm.ClassFile.FieldType.byte)), Jvm.Cond.code ({ cls := "java/lang/StringUTF16", name := "newBytesFor", desc := "(I)[B" } : Jvm.MethodName) jdk_52_method_2_code (1 : Nat) (Option.some (Jvm.ClassFile.FieldType.array Jvm.ClassFile.FieldType.byte)), Jvm.Cond.code ({ cls := "java/lang/StringUTF16", name := "newBytesLength", desc := "(I)I" } : Jvm.MethodName) jdk_52_method_3_code (1 : Nat) (Option.some Jvm.ClassFile.FieldType.int), Jvm.Cond.code ({ cls := "java/lang/StringUTF16", name := "putChar", desc := "([BII)V" } : Jvm.MethodName) jdk_52_method_4_code (3 : Nat) (Option.none : Option Jvm.ClassFile.FieldType), Jvm.Cond.code ({ cls := "java/lang/StringUTF16", name := "getChar", desc := "([BI)C" } : Jvm.MethodName) jdk_52_method_5_code (2 : Nat) (Option.some Jvm.ClassFile.FieldType.char), Jvm.Cond.code ({ cls := "java/lang/StringUTF16", name := "charAt", desc := "([BI)C" } : Jvm.MethodName) jdk_52_method_83_code (2 : Nat) (Option.some Jvm.ClassFile.FieldType.char), Jvm.Cond.code ({ cls := "java/lang/StringUTF16", name := "checkIndex", desc := "(I[B)V" } : Jvm.MethodName) jdk_52_method_91_code (2 : Nat) (Option.none : Option Jvm.ClassFile.FieldType), Jvm.Cond.code ({ cls := "java/lang/StringUTF16", name := "length", desc := "([B)I" } : Jvm.MethodName) jdk_52_method_6_code (1 : Nat) (Option.some Jvm.ClassFile.FieldType.int)]
set_option maxRecDepth 65536 in
theorem codes_eq : words1.filter isCode = codes1 := rfl
theorem w_codes : ∀ c ∈ words1.filter isCode, c.before args0 about1 = true := by
  rw [codes_eq]
  intro c hc
  simp only [codes1, List.mem_cons, List.not_mem_nil, or_false] at hc
  rcases hc with rfl | rfl | rfl | rfl | rfl | rfl | rfl | rfl | rfl | rfl | rfl | rfl | rfl | rfl | rfl | rfl | rfl | rfl | rfl | rfl | rfl | rfl | rfl | rfl | rfl | rfl | rfl | rfl | rfl
  · exact w_c0
  · exact w_c1
  · exact w_c2
  · exact w_c3
  · exact w_c4
  · exact w_c5
  · exact w_c6
  · exact w_c7
  · exact w_c8
  · exact w_c9
  · exact w_c10
  · exact w_c11
  · exact w_c12
  · exact w_c13
  · exact w_c14
  · exact w_c15
  · exact w_c16
  · exact w_c17
  · exact w_c18
  · exact w_c19
  · exact w_c20
  · exact w_c21
  · exact w_c22
  · exact w_c23
  · exact w_c24
  · exact w_c25
  · exact w_c26
  · exact w_c27
  · exact w_c28
set_option maxRecDepth 65536 in
theorem w_t1 : (words1.take 24).all (fun c => isCode c || c.before args0 about1) = true := by decide +kernel
set_option maxRecDepth 65536 in
theorem w_t2 : ((words1.drop 24).take 24).all (fun c => isCode c || c.before args0 about1) = true := by decide +kernel
set_option maxRecDepth 65536 in
theorem w_t3 : (((words1.drop 24).drop 24).take 24).all (fun c => isCode c || c.before args0 about1) = true := by decide +kernel
set_option maxRecDepth 65536 in
theorem w_t4 : ((((words1.drop 24).drop 24).drop 24).take 24).all (fun c => isCode c || c.before args0 about1) = true := by decide +kernel
set_option maxRecDepth 65536 in
theorem w_t5 : (((((words1.drop 24).drop 24).drop 24).drop 24).take 24).all (fun c => isCode c || c.before args0 about1) = true := by decide +kernel
set_option maxRecDepth 65536 in
theorem w_t6 : (((((words1.drop 24).drop 24).drop 24).drop 24).drop 24).all (fun c => isCode c || c.before args0 about1) = true := by decide +kernel
theorem w_tables : (allAtoms (Jvm.Cond.code x code maxLocals ret :: tables_1)).before args0 about1 = true := by
  rw [allAtoms_all]
  show words1.all (fun c => c.before args0 about1) = true
  refine all_split ?_ w_codes
  rw [← List.take_append_drop 24 words1, List.all_append, w_t1, ← List.take_append_drop 24 (words1.drop 24), List.all_append, w_t2, ← List.take_append_drop 24 ((words1.drop 24).drop 24), List.all_append, w_t3, ← List.take_append_drop 24 (((words1.drop 24).drop 24).drop 24), List.all_append, w_t4, ← List.take_append_drop 24 ((((words1.drop 24).drop 24).drop 24).drop 24), List.all_append, w_t5, w_t6]
  rfl
set_option maxRecDepth 65536 in
theorem w_rest : rest_1_c.before args0 about1 = true := by decide +kernel
set_option maxRecDepth 65536 in
theorem w_case : (Jvm.Cond.and given_1 narrow_1).before args0 about1 = true := by decide +kernel
set_option maxRecDepth 65536 in
theorem w_consts : constsHeld consts_1 about1 := Jvm.Lit.constsHeldB_iff.mp (by decide +kernel)
theorem w_applies : (headSpec (Jvm.Cond.code x code maxLocals ret :: tables_1) room_1).applies x e0.platform about1 = true :=
  (Spec.applies_iff w_frames).mpr ⟨w_running, w_runnable, w_alone, w_named, w_hears, w_ripe, w_room, w_tables⟩
theorem atStart : AtStart classFile x code maxLocals ret World_1 tables_1 room_1 Calls_1 rest_1 Pre_1 launch0 p0 e0 about1 theMethod args0 below0 :=
  ⟨lists_1, trivial, launch0.admits_env _ _ _, launch0.least_env, fairChoices_fair.cas, fairChoices_fair.clock, w_frames, w_args, w_heap, w_applies, ⟨w_consts, trivial⟩, w_rest, w_case⟩
end start1
theorem witness_1 : WitnessClaimed_1 := ⟨start1.p0, start1.e0, start1.about1, start1.theMethod, start1.args0, start1.below0, start1.atStart⟩
end Jvm.Pilot.@@N@@
