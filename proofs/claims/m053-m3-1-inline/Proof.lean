import JvmDerived
import JvmDerived.Pilot.@@N@@Statement
import JvmDerived.Pilot.@@N@@Code
set_option linter.unusedVariables false
set_option linter.unusedSimpArgs false
@@BLOCK:TracedD.lean.txt@@
namespace Jvm.Pilot.@@N@@
open Jvm Jvm.ClassFile Sem Op Lib Jvm.Free Jvm.Stand Jvm.LawKit Jvm.RoadKit Bundle Jvm.Pilot.@@N@@.Jvm.D
section OwnBase
abbrev Ent : Type := Addr × (Cell → Prop)
/-- what is known of the heap h: O, the objects that the law has made and still writes; P, those that nobody writes any more -/
def Lay (Z : State) (EL : List (String × Nat)) (vm : Vm) (h : Heap) (O P : List Ent) : Prop :=
  (∀ (i : Nat) (x : Ent), O[i]? = some x → (∃ c, h[x.1]? = some c ∧ x.2 c) ∧ Z.heap.size ≤ x.1 ∧ Safe Z EL vm h x.1) ∧
  (∀ (i j : Nat) (x y : Ent), O[i]? = some x → O[j]? = some y → x.1 = y.1 → i = j) ∧
  (∀ y ∈ P, (∃ c, h[y.1]? = some c ∧ y.2 c) ∧ ∀ (i : Nat) (x : Ent), O[i]? = some x → x.1 ≠ y.1)
section LayLaws
variable {Z : State} {EL : List (String × Nat)} {vm vm' : Vm} {h h' : Heap} {O P : List Ent} {a : Addr} {φ ψ : Cell → Prop} {i : Nat}
theorem Lay.nil (E : ∀ y ∈ P, ∃ c, h[y.1]? = some c ∧ y.2 c) : Lay Z EL vm h [] P := ⟨fun i x q => (by simp at q), fun i j x y q => (by simp at q), fun y q => ⟨E y q, fun i x q => (by simp at q)⟩⟩
theorem Lay.lt (L : Lay Z EL vm h O P) {x : Ent} (hi : O[i]? = some x) : x.1 < h.size := by
  obtain ⟨⟨c, q, -⟩, -⟩ := L.1 i x hi; exact (Array.getElem?_eq_some_iff.mp q).1
theorem Lay.mono (A : CHr Z EL vm h vm' h') (E : Ext h h') (L : Lay Z EL vm h O P) : Lay Z EL vm' h' O P := by
  refine ⟨fun i x q => ?_, L.2.1, fun y q => ?_⟩
  · obtain ⟨⟨c, q1, q2⟩, q3, q4⟩ := L.1 i x q
    exact ⟨⟨c, E.2 _ _ q1, q2⟩, q3, A.safe (Array.getElem?_eq_some_iff.mp q1).1 q4⟩
  · obtain ⟨⟨c, q1, q2⟩, q3⟩ := L.2.2 y q
    exact ⟨⟨c, E.2 _ _ q1, q2⟩, q3⟩
theorem Lay.new (L : Lay Z EL vm h O P) (hc : ∃ c, h[a]? = some c ∧ φ c) (hz : Z.heap.size ≤ a) (S : Safe Z EL vm h a) (f1 : ∀ (i : Nat) (x : Ent), O[i]? = some x → x.1 ≠ a) (f2 : ∀ y ∈ P, y.1 ≠ a) : Lay Z EL vm h ((a, φ) :: O) P := by
  refine ⟨fun i x q => ?_, fun i j x y q r e => ?_, fun y q => ⟨(L.2.2 y q).1, fun i x r => ?_⟩⟩
  · cases i with
    | zero => simp at q; subst q; exact ⟨hc, hz, S⟩
    | succ i => exact L.1 i x (by simpa using q)
  · cases i with
    | zero =>
      simp at q; subst q
      cases j with
      | zero => rfl
      | succ j => exact absurd e.symm (f1 j y (by simpa using r))
    | succ i =>
      cases j with
      | zero => simp at r; subst r; exact absurd e (f1 i x (by simpa using q))
      | succ j => exact congrArg _ (L.2.1 i j x y (by simpa using q) (by simpa using r) e)
  · cases i with
    | zero => simp at r; subst r; exact fun z => f2 y q z.symm
    | succ i => exact (L.2.2 y q).2 i x (by simpa using r)
theorem own_set_get {O : List Ent} {x y : Ent} {j : Nat} (hi : O[i]? = some x) (q : (O.set i y)[j]? = some a') : (j = i ∧ a' = y) ∨ (j ≠ i ∧ O[j]? = some a') := by
  by_cases e : j = i
  · subst e
    have := (List.getElem?_eq_some_iff.mp hi).1
    simp [this] at q
    exact Or.inl ⟨rfl, q.symm⟩
  · rw [List.getElem?_set_ne (fun z => e z.symm)] at q
    exact Or.inr ⟨e, q⟩
/-- one owned cell is written (or anything else happens to it) -/
theorem Lay.keep1 (L : Lay Z EL vm h O P) (A : CHr Z EL vm h vm' h') (K : Keep h h' [a]) (hi : O[i]? = some (a, φ)) (hψ : ∃ c, h'[a]? = some c ∧ ψ c) : Lay Z EL vm' h' (O.set i (a, ψ)) P := by
  have st : ∀ (x : Addr) (c : Cell), h[x]? = some c → x ≠ a → h'[x]? = some c := fun x c q r => K.2.1 x c q (by simpa using r)
  refine ⟨fun j x q => ?_, fun j j' x y q r e => ?_, fun y q => ?_⟩
  · rcases own_set_get hi q with ⟨rfl, rfl⟩ | ⟨ne, q⟩
    · obtain ⟨⟨c, q1, q2⟩, q3, q4⟩ := L.1 _ _ hi
      exact ⟨hψ, q3, A.safe (Array.getElem?_eq_some_iff.mp q1).1 q4⟩
    · obtain ⟨⟨c, q1, q2⟩, q3, q4⟩ := L.1 _ _ q
      exact ⟨⟨c, st _ _ q1 (fun z => ne (L.2.1 _ _ _ _ q hi z)), q2⟩, q3, A.safe (Array.getElem?_eq_some_iff.mp q1).1 q4⟩
  · rcases own_set_get hi q with ⟨e1, e2⟩ | ⟨ne, q'⟩ <;> rcases own_set_get hi r with ⟨e3, e4⟩ | ⟨ne', r'⟩
    · rw [e1, e3]
    · rw [e2] at e; exact absurd (L.2.1 _ _ _ _ r' hi e.symm) ne'
    · rw [e4] at e; exact absurd (L.2.1 _ _ _ _ q' hi e) ne
    · exact L.2.1 _ _ _ _ q' r' e
  · obtain ⟨⟨c, q1, q2⟩, q3⟩ := L.2.2 y q
    refine ⟨⟨c, st _ _ q1 (fun z => q3 _ _ hi z.symm), q2⟩, fun j x r => ?_⟩
    rcases own_set_get hi r with ⟨rfl, rfl⟩ | ⟨-, r⟩
    · exact fun z => q3 _ _ hi z
    · exact q3 _ _ r
theorem Lay.weak (L : Lay Z EL vm h O P) (hi : O[i]? = some (a, φ)) (w : ∀ c, φ c → ψ c) : Lay Z EL vm h (O.set i (a, ψ)) P := by
  refine ⟨fun j x q => ?_, fun j j' x y q r e => ?_, fun y q => ⟨(L.2.2 y q).1, fun j x r => ?_⟩⟩
  · rcases own_set_get hi q with ⟨rfl, rfl⟩ | ⟨ne, q⟩
    · obtain ⟨⟨c, q1, q2⟩, q3, q4⟩ := L.1 _ _ hi
      exact ⟨⟨c, q1, w c q2⟩, q3, q4⟩
    · exact L.1 _ _ q
  · rcases own_set_get hi q with ⟨e1, e2⟩ | ⟨ne, q'⟩ <;> rcases own_set_get hi r with ⟨e3, e4⟩ | ⟨ne', r'⟩
    · rw [e1, e3]
    · rw [e2] at e; exact absurd (L.2.1 _ _ _ _ r' hi e.symm) ne'
    · rw [e4] at e; exact absurd (L.2.1 _ _ _ _ q' hi e) ne
    · exact L.2.1 _ _ _ _ q' r' e
  · rcases own_set_get hi r with ⟨rfl, rfl⟩ | ⟨-, r⟩
    · exact fun z => (L.2.2 y q).2 _ _ hi z
    · exact (L.2.2 y q).2 _ _ r
theorem own_erase_get {O : List Ent} {x : Ent} {j : Nat} (q : (O.eraseIdx i)[j]? = some x) : (j < i ∧ O[j]? = some x) ∨ (i ≤ j ∧ O[j + 1]? = some x) := by
  rw [List.getElem?_eraseIdx] at q
  split at q
  · exact Or.inl ⟨by assumption, q⟩
  · exact Or.inr ⟨by omega, q⟩
/-- an owned object is given up: nobody writes it any more -/
theorem Lay.share (L : Lay Z EL vm h O P) (hi : O[i]? = some (a, φ)) : Lay Z EL vm h (O.eraseIdx i) ((a, φ) :: P) := by
  refine ⟨fun j x q => ?_, fun j j' x y q r e => ?_, fun y q => ?_⟩
  · rcases own_erase_get q with ⟨-, q⟩ | ⟨-, q⟩ <;> exact L.1 _ _ q
  · rcases own_erase_get q with ⟨b, q⟩ | ⟨b, q⟩ <;> rcases own_erase_get r with ⟨b', r⟩ | ⟨b', r⟩ <;> have := L.2.1 _ _ _ _ q r e <;> omega
  · have ers : ∀ (P' : Ent → Prop), (∀ j x, O[j]? = some x → j ≠ i → P' x) → ∀ j x, (O.eraseIdx i)[j]? = some x → P' x := fun P' w j x r => by
      rcases own_erase_get r with ⟨b, r⟩ | ⟨b, r⟩
      · exact w _ _ r (by omega)
      · exact w _ _ r (by omega)
    rcases List.mem_cons.mp q with rfl | q
    · exact ⟨(L.1 _ _ hi).1, ers _ fun j x r ne z => ne (L.2.1 _ _ _ _ r hi z)⟩
    · exact ⟨(L.2.2 y q).1, ers _ fun j x r _ => (L.2.2 y q).2 _ _ r⟩
/-- an owned object is forgotten -/
theorem Lay.drop (L : Lay Z EL vm h O P) (i : Nat) : Lay Z EL vm h (O.eraseIdx i) P := by
  refine ⟨fun j x q => ?_, fun j j' x y q r e => ?_, fun y q => ⟨(L.2.2 y q).1, fun j x r => ?_⟩⟩
  · rcases own_erase_get q with ⟨-, q⟩ | ⟨-, q⟩ <;> exact L.1 _ _ q
  · rcases own_erase_get q with ⟨b, q⟩ | ⟨b, q⟩ <;> rcases own_erase_get r with ⟨b', r⟩ | ⟨b', r⟩ <;> have := L.2.1 _ _ _ _ q r e <;> omega
  · rcases own_erase_get r with ⟨-, r⟩ | ⟨-, r⟩ <;> exact (L.2.2 y q).2 _ _ r
theorem Lay.sub (L : Lay Z EL vm h O P) {P' : List Ent} (hs : ∀ y ∈ P', y ∈ P) : Lay Z EL vm h O P' := ⟨L.1, L.2.1, fun y q => L.2.2 y (hs y q)⟩
theorem Lay.ro (L : Lay Z EL vm h O P) (hc : ∃ c, h[a]? = some c ∧ φ c) (hn : ∀ (i : Nat) (x : Ent), O[i]? = some x → x.1 ≠ a) : Lay Z EL vm h O ((a, φ) :: P) :=
  ⟨L.1, L.2.1, fun y q => by
    rcases List.mem_cons.mp q with rfl | q
    · exact ⟨hc, hn⟩
    · exact L.2.2 y q⟩
end LayLaws
/-! what a cell holds -/
def ExaC (Z : State) (C : String) (c : Cell) : Prop := ∃ kk : Class, Z.vm.findClass C = some c.cls ∧ Z.vm.classes[c.cls]? = some kk ∧ c.vm.isStatics = false ∧ (kk.kind = .ordinary → c.slots.size = kk.instanceTypes.size)
def FldC (Z : State) (C n d : String) (v : Value) (c : Cell) : Prop := ∃ (cf : ClassId) (kk : Class) (i : Nat) (f : Field), Z.fieldFound? C n d = some (cf, kk, i, f) ∧ f.isStatic = false ∧ c.vm ≠ .unknown ∧ c.vm.isStatics = false ∧ Z.vm.assignable c.cls cf = true ∧ c.slots[f.slot]? = some v
abbrev Shape : Type := List (String × String × String)
/-- an object of exactly the class C whose fields sh hold vs -/
def ObjC (Z : State) (C : String) (sh : Shape) (vs : List Value) (c : Cell) : Prop := ExaC Z C c ∧ ∀ (i : Nat) (f : String × String × String) (v : Value), sh[i]? = some f → vs[i]? = some v → FldC Z f.1 f.2.1 f.2.2 v c
/-- an array of ty whose components are vs -/
def ArrC (Z : State) (ty : FieldType) (vs : List Value) (c : Cell) : Prop := Z.isArrayOf c ty ∧ c.vm ≠ .unknown ∧ c.slots.toList = vs ∧ (∀ v ∈ vs, fits ty v = true) ∧ vs.length < 2 ^ 31
/-- the shape's fields are laid, their names differ -/
def ShOk (Z : State) (a0 : Array Value) (C : String) (sh : Shape) : Prop := ∀ (i : Nat) (f : String × String × String), sh[i]? = some f → Laid Z a0 C f.1 f.2.1 f.2.2 ∧ ∃ t, parseFieldDescriptor f.2.2 = some t
section CellLaws
variable {Z : State} {a0 : Array Value} {h h' : Heap} {a : Addr} {C O n d : String} {v w : Value} {c : Cell} {sh : Shape} {vs : List Value} {i : Nat} {ty : FieldType}
theorem ExaC.exa (q : h[a]? = some c) (F : ExaC Z C c) : Exa Z h a C := by obtain ⟨kk, h1, h2, h3, h4⟩ := F; exact ⟨c, kk, q, h1, h2, h3, h4⟩
theorem exaC (F : Exa Z h a C) : ∃ c, h[a]? = some c ∧ ExaC Z C c := by obtain ⟨c, kk, q, h1, h2, h3, h4⟩ := F; exact ⟨c, q, kk, h1, h2, h3, h4⟩
theorem FldC.fld (q : h[a]? = some c) (F : FldC Z C n d v c) : Fld Z h a C n d v := by obtain ⟨cf, kk, i, f, r⟩ := F; exact ⟨c, cf, kk, i, f, q, r⟩
theorem fldC (q : h[a]? = some c) (F : Fld Z h a C n d v) : FldC Z C n d v c := by obtain ⟨c', cf, kk, i, f, q', r⟩ := F; cases q.symm.trans q'; exact ⟨cf, kk, i, f, r⟩
theorem ObjC.get (F : ObjC Z C sh vs c) (h1 : sh[i]? = some (O, n, d)) (h2 : vs[i]? = some v) : FldC Z O n d v c := F.2 i _ v h1 h2
theorem ObjC.set (F : ObjC Z C sh vs c) (K : ShOk Z a0 C sh) (nd : (sh.map (·.2.1)).Nodup) (h1 : sh[i]? = some (O, n, d)) (W : Wr h h' a (Jvm.RoadKit.slotOf Z O n d) v) (q : h[a]? = some c) : ∃ c', h'[a]? = some c' ∧ ObjC Z C sh (vs.set i v) c' := by
  obtain ⟨c', e1, -⟩ := wr_at W q
  have E : Exa Z h' a C := (F.1.exa q).wr W
  refine ⟨c', e1, ?_, fun j f u hj hu => ?_⟩
  · obtain ⟨c'', kk, r, rest⟩ := E; cases e1.symm.trans r; exact ⟨kk, rest⟩
  · by_cases e : j = i
    · subst e
      cases h1.symm.trans hj
      have hl : j < vs.length := by
        rcases Nat.lt_or_ge j vs.length with z | z
        · exact z
        · rw [List.getElem?_eq_none (by simpa using z)] at hu; cases hu
      simp [hl] at hu; subst hu
      exact fldC e1 (Fld.same W ((F.2 j _ _ h1 (List.getElem?_eq_getElem hl)).fld q))
    · rw [List.getElem?_set_ne (fun z => e z.symm)] at hu
      have L1 := K _ _ hj
      have L2 := K _ _ h1
      obtain ⟨t1, p1⟩ := L1.2
      obtain ⟨t2, p2⟩ := L2.2
      have ne : f.2.1 ≠ n := fun z => e (by
        have a1 : (sh.map (·.2.1))[j]? = some n := by rw [List.getElem?_map, hj]; exact congrArg some z
        have a2 : (sh.map (·.2.1))[i]? = some n := by rw [List.getElem?_map, h1]; rfl
        obtain ⟨b1, b2⟩ := List.getElem?_eq_some_iff.mp a1
        obtain ⟨b3, b4⟩ := List.getElem?_eq_some_iff.mp a2
        exact (List.getElem_inj nd).mp (b2.trans b4.symm))
      exact fldC e1 (Fld.other W ((F.2 j _ _ hj hu).fld q) (Or.inr (slot_ne L1.1 L2.1 ne p1 p2)))
theorem ArrC.arr (q : h[a]? = some c) (F : ArrC Z ty vs c) : Arr Z h a c ty := ⟨q, F.1, F.2.1⟩
theorem ArrC.size (F : ArrC Z ty vs c) : c.slots.size = vs.length := by rw [← F.2.2.1]; simp
theorem ArrC.at (F : ArrC Z ty vs c) (hv : vs[i]? = some v) : c.slots[i]? = some v := by rw [← F.2.2.1] at hv; simpa using hv
theorem ArrC.set (F : ArrC Z ty vs c) (hv : fits ty v = true) (W : Wr h h' a i v) (q : h[a]? = some c) : ∃ c', h'[a]? = some c' ∧ ArrC Z ty (vs.set i v) c' := by
  refine ⟨_, (Arr.same W (F.arr q)).1, F.1, F.2.1, ?_, fun u hu => ?_, by simpa using F.2.2.2.2⟩
  · simp [Cell.setSlot, F.2.2.1]
  · rcases List.mem_or_eq_of_mem_set hu with z | z
    · exact F.2.2.2.1 u z
    · exact z ▸ hv
theorem ArrC.new {cA : ClassId} {z : Int32} (A : Arr Z h a (newA cA ty z) ty) (hz : ¬ z < 0) (hd : fits ty (defaultValue ty) = true) : ∃ c, h[a]? = some c ∧ ArrC Z ty (List.replicate z.toNatClampNeg (defaultValue ty)) c :=
  ⟨_, A.1, A.2.1, A.2.2, by simp [newA], fun v hv => by rw [List.eq_of_mem_replicate hv]; exact hd, by rw [List.length_replicate]; exact (back32 hz).2⟩
end CellLaws
/-- the walk of one body stands at T -/
def Wk (kn : Prop) (p : Program) (l : Launch) (e : Env) (R : Room) (s : State) (m : MethodId) (args : Array Value) (below : List Frame) (meth : Method) (c : Code)
    (bytes : ByteArray) (maxL : Nat) (ret : Option FieldType) (Z : State) (a0 : Array Value) (EL : List (String × Nat)) (own : String) (T : State) (O P : List Ent) (k n : Nat) : Prop :=
  (p.tables.exec = Jvm.exec ∧ c.code = bytes ∧ c.maxLocals = maxL ∧ meth.sig.returnType = ret ∧ meth.locks = false ∧ EW Z a0 EL ∧ (kn → (s.vm.MethodsKnown ∧ s.vm.FramesKnown below) ∧ Ext Z.heap s.heap)) ∧
  ∃ locs, Stand p l e R (s.setVm T.vm) m args below meth c T locs k n ∧ s.Since T.vm T.heap.size ∧ Z.Warmed39 T.vm ∧ T.vm.findClass own = some m.cls ∧ Fr Z.heap.size locs ∧
    CHr Z EL s.vm s.heap T.vm T.heap ∧ Ext Z.heap T.heap ∧ Lay Z EL T.vm T.heap O P
/-- from T with the frame g on top the invocation goes on to its end, where Q holds -/
def Go (p : Program) (e : Env) (below : List Frame) (s : State) (R : Room) (Z : State) (EL : List (String × Nat)) (Q : Option Value → List Ent → List Ent → Prop) (T : State) (g : JFrame) : Prop :=
  ∃ t o, Steps p.tables e below (T.setTop g) t ∧ t.status = .running ∧ Ended t below o ∧ ∃ v L, o = .returned v ∧ CHr Z EL s.vm s.heap t.vm t.heap ∧ ReturnedEndW s o t L R.cells R.slots ∧ Fr Z.heap.size L ∧ Ext Z.heap t.heap ∧ ∃ O P, Lay Z EL t.vm t.heap O P ∧ Q v O P
/-- the contract of a body: from the layout O, P, called with as', it returns some v and leaves O', P' with Q v O' P' -/
def Con (kn : Prop) (l : Launch) (Z : State) (EL : List (String × Nat)) (y : MethodName) (bytes : ByteArray) (maxL : Nat) (ret : Option FieldType) (ws : List Jvm.Cond) (rm : Room) (as' : Array Value) (O P : List Ent) (Q : Option Value → List Ent → List Ent → Prop) : Prop :=
  MetFree l y (head1 (Jvm.Cond.code y bytes maxL ret :: ws) rm) (fun a U => a = as' ∧ Z.Warmed39 U.vm ∧ CHv Z EL U.vm U.heap ∧ Ext Z.heap U.heap ∧ Lay Z EL U.vm U.heap O P) (fun _ _ bl s _ => kn → s.vm.MethodsKnown ∧ s.vm.FramesKnown bl)
    (fun _ U o U' => ∃ v L, o = .returned v ∧ CHr Z EL U.vm U.heap U'.vm U'.heap ∧ ReturnedEndW U o U' L rm.cells rm.slots ∧ Fr Z.heap.size L ∧ Ext Z.heap U'.heap ∧ ∃ O' P', Lay Z EL U'.vm U'.heap O' P' ∧ Q v O' P')
section WkLaws
variable {kn : Prop} {p : Program} {l : Launch} {e : Env} {R : Room} {s : State} {m : MethodId} {args : Array Value} {below : List Frame} {meth : Method} {c : Code} {bytes : ByteArray} {maxL : Nat} {ret : Option FieldType} {Z : State} {a0 : Array Value} {EL : List (String × Nat)} {own : String} {T T' : State} {O O' P P' : List Ent} {k n k' n' : Nat} {Q : Option Value → List Ent → List Ent → Prop}
theorem Wk.hx (W : Wk kn p l e R s m args below meth c bytes maxL ret Z a0 EL own T O P k n) : p.tables.exec = Jvm.exec := W.1.1
theorem Wk.hby (W : Wk kn p l e R s m args below meth c bytes maxL ret Z a0 EL own T O P k n) : c.code = bytes := W.1.2.1
theorem Wk.here (W : Wk kn p l e R s m args below meth c bytes maxL ret Z a0 EL own T O P k n) : At T m c below := by obtain ⟨-, locs, X, -⟩ := W; exact X.here
theorem Wk.lay (W : Wk kn p l e R s m args below meth c bytes maxL ret Z a0 EL own T O P k n) : Lay Z EL T.vm T.heap O P := by obtain ⟨-, locs, -, -, -, -, -, -, -, L⟩ := W; exact L
theorem Wk.old (W : Wk kn p l e R s m args below meth c bytes maxL ret Z a0 EL own T O P k n) : Ext Z.heap T.heap := by obtain ⟨-, locs, -, -, -, -, -, -, E, -⟩ := W; exact E
theorem Wk.chv (W : Wk kn p l e R s m args below meth c bytes maxL ret Z a0 EL own T O P k n) : CHv Z EL T.vm T.heap := by obtain ⟨-, locs, -, -, -, -, -, H, -⟩ := W; exact H.1
theorem Wk.hZ (W : Wk kn p l e R s m args below meth c bytes maxL ret Z a0 EL own T O P k n) : Z.Warmed39 T.vm := by obtain ⟨-, locs, -, -, H, -⟩ := W; exact H
/-- what is known of the i-th owned object -/
theorem Wk.ow (W : Wk kn p l e R s m args below meth c bytes maxL ret Z a0 EL own T O P k n) {i : Nat} {a : Addr} {φ : Cell → Prop} (hi : O[i]? = some (a, φ)) : ∃ c, T.heap[a]? = some c ∧ φ c := (W.lay.1 i _ hi).1
/-- .. and of one that nobody writes -/
theorem Wk.rd (W : Wk kn p l e R s m args below meth c bytes maxL ret Z a0 EL own T O P k n) {a : Addr} {φ : Cell → Prop} (hi : (a, φ) ∈ P) : ∃ c, T.heap[a]? = some c ∧ φ c := (W.lay.2.2 _ hi).1
theorem Wk.relay (W : Wk kn p l e R s m args below meth c bytes maxL ret Z a0 EL own T O P k n) (F : Lay Z EL T.vm T.heap O P → Lay Z EL T.vm T.heap O' P') : Wk kn p l e R s m args below meth c bytes maxL ret Z a0 EL own T O' P' k n := by
  obtain ⟨W1, locs, h1, h2, h3, h4, h5, h6, h7, h8⟩ := W; exact ⟨W1, locs, h1, h2, h3, h4, h5, h6, h7, F h8⟩
theorem Wk.share (W : Wk kn p l e R s m args below meth c bytes maxL ret Z a0 EL own T O P k n) {i : Nat} {a : Addr} {φ : Cell → Prop} (hi : O[i]? = some (a, φ)) : Wk kn p l e R s m args below meth c bytes maxL ret Z a0 EL own T (O.eraseIdx i) ((a, φ) :: P) k n := W.relay fun L => L.share hi
theorem Wk.drop (W : Wk kn p l e R s m args below meth c bytes maxL ret Z a0 EL own T O P k n) (i : Nat) : Wk kn p l e R s m args below meth c bytes maxL ret Z a0 EL own T (O.eraseIdx i) P k n := W.relay fun L => L.drop i
theorem Wk.weak (W : Wk kn p l e R s m args below meth c bytes maxL ret Z a0 EL own T O P k n) {i : Nat} {a : Addr} {φ ψ : Cell → Prop} (hi : O[i]? = some (a, φ)) (w : ∀ c, φ c → ψ c) : Wk kn p l e R s m args below meth c bytes maxL ret Z a0 EL own T (O.set i (a, ψ)) P k n := W.relay fun L => L.weak hi w
theorem Wk.fewer (W : Wk kn p l e R s m args below meth c bytes maxL ret Z a0 EL own T O P k n) (hk : k ≤ k') (hn : n ≤ n') : Wk kn p l e R s m args below meth c bytes maxL ret Z a0 EL own T O P k' n' := by
  obtain ⟨W1, locs, h1, r⟩ := W; exact ⟨W1, locs, h1.mono hk hn, r⟩
theorem own_since {s : State} {vm : Vm} {k1 k2 : Nat} (h : s.Since vm k1) (hk : k1 ≤ k2) : s.Since vm k2 := ⟨h.1, fun j p a b => ⟨(h.2 j p a b).1, Nat.lt_of_lt_of_le (h.2 j p a b).2 hk⟩⟩
/-- the general step -/
theorem Wk.core {locs' : List Loc} (W : Wk kn p l e R s m args below meth c bytes maxL ret Z a0 EL own T O P k n) (X : Stand p l e R (s.setVm T'.vm) m args below meth c T' locs' k' n') (hS : s.Since T'.vm T'.heap.size) (hZ' : Z.Warmed39 T'.vm) (hf : T'.vm.findClass own = some m.cls)
    (N : Fr Z.heap.size locs') (A : CHr Z EL T.vm T.heap T'.vm T'.heap) (E : Ext Z.heap T'.heap) (L : Lay Z EL T'.vm T'.heap O' P') : Wk kn p l e R s m args below meth c bytes maxL ret Z a0 EL own T' O' P' k' n' := by
  obtain ⟨W1, locs, -, h2, h3, h4, -, h6, -, -⟩ := W
  exact ⟨W1, locs', X, hS, hZ', hf, N, h6.trans A, E, L⟩
theorem Wk.coreS {locs' : List Loc} (W : Wk kn p l e R s m args below meth c bytes maxL ret Z a0 EL own T O P k n) (X : Stand p l e R (s.setVm T'.vm) m args below meth c T' locs' k' n') (hS : (s.setVm T.vm).Since T'.vm T'.heap.size) (hle : T.heap.size ≤ T'.heap.size)
    (N : Fr Z.heap.size locs') (A : CHr Z EL T.vm T.heap T'.vm T'.heap) (E : Ext Z.heap T'.heap) (L : Lay Z EL T'.vm T'.heap O' P') : Wk kn p l e R s m args below meth c bytes maxL ret Z a0 EL own T' O' P' k' n' := by
  obtain ⟨W1, locs, -, h2, h3, h4, -, h6, -, -⟩ := id W
  exact W.core X (h2.trans hS hle) (State.Warmed39.trans (t := s.setVm T.vm) h3 hS.1) (by rw [hS.1.alike.findClass]; exact h4) N A E L
/-- .. where the tables only warm -/
theorem Wk.warm {locs' : List Loc} (W : Wk kn p l e R s m args below meth c bytes maxL ret Z a0 EL own T O P k n) (X : Stand p l e R (s.setVm T.vm) m args below meth c T' locs' k' n') (hle : T.heap.size ≤ T'.heap.size)
    (N : Fr Z.heap.size locs') (A : CHr Z EL T'.vm T.heap T'.vm T'.heap) (E : Ext Z.heap T'.heap) (L : Lay Z EL T'.vm T.heap O P → Lay Z EL T'.vm T'.heap O' P') : Wk kn p l e R s m args below meth c bytes maxL ret Z a0 EL own T' O' P' k' n' := by
  have B : CHr Z EL T.vm T.heap T'.vm T.heap := CHv.at X W.hZ W.1.2.2.2.2.2.1 W.chv
  exact W.coreS (X.retabled X.warmed.wide) (X.warmed.since _) hle N (B.trans A) E (L (W.lay.mono B ⟨Nat.le_refl _, fun _ _ q => q⟩))
theorem Wk.chv' {locs' : List Loc} (W : Wk kn p l e R s m args below meth c bytes maxL ret Z a0 EL own T O P k n) (X : Stand p l e R (s.setVm T.vm) m args below meth c T' locs' k' n') : CHv Z EL T'.vm T.heap := (CHv.at X W.hZ W.1.2.2.2.2.2.1 W.chv).1
/-- the tables warm, the heap is what it was -/
theorem Wk.same {locs' : List Loc} (W : Wk kn p l e R s m args below meth c bytes maxL ret Z a0 EL own T O P k n) (X : Stand p l e R (s.setVm T.vm) m args below meth c T' locs' k' n') (hh : T'.heap = T.heap) (N : Fr Z.heap.size locs') : Wk kn p l e R s m args below meth c bytes maxL ret Z a0 EL own T' O P k' n' :=
  W.warm X (by rw [hh]; exact Nat.le_refl _) N (by rw [hh]; exact CHr.refl (W.chv' X)) (by rw [hh]; exact W.old) (fun L => by rw [hh]; exact L)
/-- a new cell -/
theorem Wk.made {locs' : List Loc} (W : Wk kn p l e R s m args below meth c bytes maxL ret Z a0 EL own T O P k n) (X : Stand p l e R (s.setVm T.vm) m args below meth c T' locs' k' n') (E : Ext T.heap T'.heap) (N : Fr Z.heap.size locs') {φ : Cell → Prop} (hc : ∃ c, T'.heap[T.heap.size]? = some c ∧ φ c) :
    Wk kn p l e R s m args below meth c bytes maxL ret Z a0 EL own T' ((T.heap.size, φ) :: O) P k' n' := by
  have H := W.chv' X
  have A : CHr Z EL T'.vm T.heap T'.vm T'.heap := CHr.ext E H
  have hs : Safe Z EL T'.vm T'.heap T.heap.size := Safe.ext E H (Safe.new (Nat.le_refl _))
  refine W.warm X E.1 N A ⟨Nat.le_trans W.old.1 E.1, fun a c q => E.2 _ _ (W.old.2 _ _ q)⟩ fun L => (L.mono A E).new hc W.old.1 hs (fun i x q z => ?_) (fun y q z => ?_)
  · exact absurd z (Nat.ne_of_lt (L.lt q))
  · obtain ⟨⟨c, q1, -⟩, -⟩ := L.2.2 y q
    exact absurd z (Nat.ne_of_lt (Array.getElem?_eq_some_iff.mp q1).1)
/-- one owned cell changes -/
theorem Wk.wrote {locs' : List Loc} (W : Wk kn p l e R s m args below meth c bytes maxL ret Z a0 EL own T O P k n) (X : Stand p l e R (s.setVm T.vm) m args below meth c T' locs' k' n') {a : Addr} {i : Nat} {φ ψ : Cell → Prop} (hi : O[i]? = some (a, φ)) (K : Keep T.heap T'.heap [a]) (N : Fr Z.heap.size locs') (hc : ∃ c, T'.heap[a]? = some c ∧ ψ c) :
    Wk kn p l e R s m args below meth c bytes maxL ret Z a0 EL own T' (O.set i (a, ψ)) P k' n' := by
  have H := W.chv' X
  have B : CHr Z EL T.vm T.heap T'.vm T.heap := CHv.at X W.hZ W.1.2.2.2.2.2.1 W.chv
  have hs := (W.lay.mono B ⟨Nat.le_refl _, fun _ _ q => q⟩).1 i _ hi
  have A : CHr Z EL T'.vm T.heap T'.vm T'.heap := CHr.keep K (sfS hs.2.2 sf0) H
  have E := W.old
  refine W.warm X K.1 N A ⟨Nat.le_trans E.1 K.1, fun b c q => K.2.1 _ _ (E.2 _ _ q) fun z => ?_⟩ fun L => L.keep1 A K hi hc
  cases List.mem_singleton.mp z
  have := (Array.getElem?_eq_some_iff.mp q).1
  have := hs.2.1
  omega
theorem Wk.fr (W : Wk kn p l e R s m args below meth c bytes maxL ret Z a0 EL own T O P k n) {i : Nat} {a : Addr} {φ : Cell → Prop} (hi : O[i]? = some (a, φ)) : Z.heap.size ≤ a := (W.lay.1 i _ hi).2.1
theorem Wk.ne (W : Wk kn p l e R s m args below meth c bytes maxL ret Z a0 EL own T O P k n) {i : Nat} {a b : Addr} {φ ψ : Cell → Prop} (hi : O[i]? = some (a, φ)) (hb : (b, ψ) ∈ P) : a ≠ b := (W.lay.2.2 _ hb).2 i _ hi
end WkLaws
end OwnBase
section OwnSteps
variable {kn : Prop} {p : Program} {l : Launch} {e : Env} {R : Room} {s : State} {m : MethodId} {args : Array Value} {below : List Frame} {meth : Method} {c : Code} {bytes : ByteArray} {maxL : Nat} {ret : Option FieldType} {Z : State} {a0 : Array Value} {EL : List (String × Nat)} {own : String} {T T' : State} {O O' P P' : List Ent} {k n k' n' : Nat} {Q : Option Value → List Ent → List Ent → Prop} {g g' : JFrame} {pc q : Nat} {L : Array Slot} {S : List Value}
theorem Go.step (h : ∀ t, Steps p.tables e below (T'.setTop g') t → Steps p.tables e below (T.setTop g) t) (K : Go p e below s R Z EL Q T' g') : Go p e below s R Z EL Q T g := by
  obtain ⟨t, o, h1, r⟩ := K; exact ⟨t, o, h _ h1, r⟩
theorem Go.back (h : Steps p.tables e below (T.setTop g) (T'.setTop g')) (K : Go p e below s R Z EL Q T' g') : Go p e below s R Z EL Q T g := K.step fun _ hr => h.trans hr
theorem g_iloadN (W : Wk kn p l e R s m args below meth c bytes maxL ret Z a0 EL own T O P k n) {j : Fin 4} {x : Int32} (hd : decode bytes pc = .ok (.iload_n j, 1)) (hl : L[j.val]? = some (.val (.int x))) (hq : pc + 1 = q) (K : Go p e below s R Z EL Q T (mkF m q L (.int x :: S))) : Go p e below s R Z EL Q T (mkF m pc L S) := by subst hq; exact K.step fun t hr => XS.iloadN W.here W.hx rfl (hb W.hby hd) hl hr
theorem g_iload (W : Wk kn p l e R s m args below meth c bytes maxL ret Z a0 EL own T O P k n) {j : Nat} {x : Int32} (hd : decode bytes pc = .ok (.iload j, 2)) (hl : L[j]? = some (.val (.int x))) (hq : pc + 2 = q) (K : Go p e below s R Z EL Q T (mkF m q L (.int x :: S))) : Go p e below s R Z EL Q T (mkF m pc L S) := by subst hq; exact K.step fun t hr => XS.iload W.here W.hx rfl (hb W.hby hd) hl hr
theorem g_lloadN (W : Wk kn p l e R s m args below meth c bytes maxL ret Z a0 EL own T O P k n) {j : Fin 4} {x : Int64} (hd : decode bytes pc = .ok (.lload_n j, 1)) (hl : L[j.val]? = some (.val (.long x))) (hq : pc + 1 = q) (K : Go p e below s R Z EL Q T (mkF m q L (.long x :: S))) : Go p e below s R Z EL Q T (mkF m pc L S) := by subst hq; exact K.step fun t hr => XT.lloadN W.here W.hx rfl (hb W.hby hd) hl hr
theorem g_lload (W : Wk kn p l e R s m args below meth c bytes maxL ret Z a0 EL own T O P k n) {j : Nat} {x : Int64} (hd : decode bytes pc = .ok (.lload j, 2)) (hl : L[j]? = some (.val (.long x))) (hq : pc + 2 = q) (K : Go p e below s R Z EL Q T (mkF m q L (.long x :: S))) : Go p e below s R Z EL Q T (mkF m pc L S) := by subst hq; exact K.step fun t hr => XT.lload W.here W.hx rfl (hb W.hby hd) hl hr
theorem g_aloadN (W : Wk kn p l e R s m args below meth c bytes maxL ret Z a0 EL own T O P k n) {j : Fin 4} {x : Value} (hd : decode bytes pc = .ok (.aload_n j, 1)) (hl : L[j.val]? = some (.val x)) (hv : x.isRef = true) (hq : pc + 1 = q) (K : Go p e below s R Z EL Q T (mkF m q L (x :: S))) : Go p e below s R Z EL Q T (mkF m pc L S) := by subst hq; exact K.step fun t hr => XS.aloadN W.here W.hx rfl (hb W.hby hd) hl hv hr
theorem g_aload (W : Wk kn p l e R s m args below meth c bytes maxL ret Z a0 EL own T O P k n) {j : Nat} {x : Value} (hd : decode bytes pc = .ok (.aload j, 2)) (hl : L[j]? = some (.val x)) (hv : x.isRef = true) (hq : pc + 2 = q) (K : Go p e below s R Z EL Q T (mkF m q L (x :: S))) : Go p e below s R Z EL Q T (mkF m pc L S) := by subst hq; exact K.step fun t hr => XS.aload W.here W.hx rfl (hb W.hby hd) hl hv hr
theorem g_istoreN (W : Wk kn p l e R s m args below meth c bytes maxL ret Z a0 EL own T O P k n) {j : Fin 4} {x : Int32} {L' : Array Slot} (hd : decode bytes pc = .ok (.istore_n j, 1)) (hl : storeLocals L j.val (.int x) = some L') (hq : pc + 1 = q) (K : Go p e below s R Z EL Q T (mkF m q L' S)) : Go p e below s R Z EL Q T (mkF m pc L (.int x :: S)) := by subst hq; exact K.step fun t hr => XS.istoreN W.here W.hx rfl (hb W.hby hd) rfl hl hr
theorem g_istore (W : Wk kn p l e R s m args below meth c bytes maxL ret Z a0 EL own T O P k n) {j : Nat} {x : Int32} {L' : Array Slot} (hd : decode bytes pc = .ok (.istore j, 2)) (hl : storeLocals L j (.int x) = some L') (hq : pc + 2 = q) (K : Go p e below s R Z EL Q T (mkF m q L' S)) : Go p e below s R Z EL Q T (mkF m pc L (.int x :: S)) := by subst hq; exact K.step fun t hr => XS.istore W.here W.hx rfl (hb W.hby hd) rfl hl hr
theorem g_lstoreN (W : Wk kn p l e R s m args below meth c bytes maxL ret Z a0 EL own T O P k n) {j : Fin 4} {x : Int64} {L' : Array Slot} (hd : decode bytes pc = .ok (.lstore_n j, 1)) (hl : storeLocals L j.val (.long x) = some L') (hq : pc + 1 = q) (K : Go p e below s R Z EL Q T (mkF m q L' S)) : Go p e below s R Z EL Q T (mkF m pc L (.long x :: S)) := by subst hq; exact K.step fun t hr => XT.lstoreN W.here W.hx rfl (hb W.hby hd) rfl hl hr
theorem g_lstore (W : Wk kn p l e R s m args below meth c bytes maxL ret Z a0 EL own T O P k n) {j : Nat} {x : Int64} {L' : Array Slot} (hd : decode bytes pc = .ok (.lstore j, 2)) (hl : storeLocals L j (.long x) = some L') (hq : pc + 2 = q) (K : Go p e below s R Z EL Q T (mkF m q L' S)) : Go p e below s R Z EL Q T (mkF m pc L (.long x :: S)) := by subst hq; exact K.step fun t hr => XT.lstore W.here W.hx rfl (hb W.hby hd) rfl hl hr
theorem g_astoreN (W : Wk kn p l e R s m args below meth c bytes maxL ret Z a0 EL own T O P k n) {j : Fin 4} {x : Value} {L' : Array Slot} (hd : decode bytes pc = .ok (.astore_n j, 1)) (hv : x.isRef = true) (hl : storeLocals L j.val x = some L') (hq : pc + 1 = q) (K : Go p e below s R Z EL Q T (mkF m q L' S)) : Go p e below s R Z EL Q T (mkF m pc L (x :: S)) := by subst hq; exact K.step fun t hr => XS.astoreN W.here W.hx rfl (hb W.hby hd) rfl hv hl hr
theorem g_astore (W : Wk kn p l e R s m args below meth c bytes maxL ret Z a0 EL own T O P k n) {j : Nat} {x : Value} {L' : Array Slot} (hd : decode bytes pc = .ok (.astore j, 2)) (hv : x.isRef = true) (hl : storeLocals L j x = some L') (hq : pc + 2 = q) (K : Go p e below s R Z EL Q T (mkF m q L' S)) : Go p e below s R Z EL Q T (mkF m pc L (x :: S)) := by subst hq; exact K.step fun t hr => XS.astore W.here W.hx rfl (hb W.hby hd) rfl hv hl hr
theorem g_iconst (W : Wk kn p l e R s m args below meth c bytes maxL ret Z a0 EL own T O P k n) {i : Int} {v : Int32} (hd : decode bytes pc = .ok (.iconst i, 1)) (hv : Int32.ofInt i = v) (hq : pc + 1 = q) (K : Go p e below s R Z EL Q T (mkF m q L (.int v :: S))) : Go p e below s R Z EL Q T (mkF m pc L S) := by subst hq; exact K.step fun t hr => XS.iconst W.here W.hx rfl (hb W.hby hd) (hv ▸ hr)
theorem g_bipush (W : Wk kn p l e R s m args below meth c bytes maxL ret Z a0 EL own T O P k n) {i : Int} {v : Int32} (hd : decode bytes pc = .ok (.bipush i, 2)) (hv : (Int8.ofInt i).toInt32 = v) (hq : pc + 2 = q) (K : Go p e below s R Z EL Q T (mkF m q L (.int v :: S))) : Go p e below s R Z EL Q T (mkF m pc L S) := by subst hq; exact K.step fun t hr => XS.bipush W.here W.hx rfl (hb W.hby hd) (hv ▸ hr)
theorem g_sipush (W : Wk kn p l e R s m args below meth c bytes maxL ret Z a0 EL own T O P k n) {i : Int} {v : Int32} (hd : decode bytes pc = .ok (.sipush i, 3)) (hv : (Int16.ofInt i).toInt32 = v) (hq : pc + 3 = q) (K : Go p e below s R Z EL Q T (mkF m q L (.int v :: S))) : Go p e below s R Z EL Q T (mkF m pc L S) := by subst hq; exact K.step fun t hr => XS.sipush W.here W.hx rfl (hb W.hby hd) (hv ▸ hr)
theorem g_lconst (W : Wk kn p l e R s m args below meth c bytes maxL ret Z a0 EL own T O P k n) {i : Fin 2} {v : Int64} (hd : decode bytes pc = .ok (.lconst i, 1)) (hv : Int64.ofNat i = v) (hq : pc + 1 = q) (K : Go p e below s R Z EL Q T (mkF m q L (.long v :: S))) : Go p e below s R Z EL Q T (mkF m pc L S) := by subst hq; exact K.step fun t hr => XT.lconst W.here W.hx rfl (hb W.hby hd) (hv ▸ hr)
theorem g_null (W : Wk kn p l e R s m args below meth c bytes maxL ret Z a0 EL own T O P k n)  (hd : decode bytes pc = .ok (.aconst_null, 1))  (hq : pc + 1 = q) (K : Go p e below s R Z EL Q T (mkF m q L (.null :: S))) : Go p e below s R Z EL Q T (mkF m pc L S) := by subst hq; exact K.step fun t hr => XS.aconstNull W.here W.hx rfl (hb W.hby hd) hr
theorem g_iadd (W : Wk kn p l e R s m args below meth c bytes maxL ret Z a0 EL own T O P k n) {x y z : Int32} (hd : decode bytes pc = .ok (.iadd, 1)) (hz : x + y = z) (hq : pc + 1 = q) (K : Go p e below s R Z EL Q T (mkF m q L (.int z :: S))) : Go p e below s R Z EL Q T (mkF m pc L (.int y :: .int x :: S)) := by subst hq; exact K.step fun t hr => XS.iadd W.here W.hx rfl (hb W.hby hd) rfl (hz ▸ hr)
theorem g_isub (W : Wk kn p l e R s m args below meth c bytes maxL ret Z a0 EL own T O P k n) {x y z : Int32} (hd : decode bytes pc = .ok (.isub, 1)) (hz : x - y = z) (hq : pc + 1 = q) (K : Go p e below s R Z EL Q T (mkF m q L (.int z :: S))) : Go p e below s R Z EL Q T (mkF m pc L (.int y :: .int x :: S)) := by subst hq; exact K.step fun t hr => XS.isub W.here W.hx rfl (hb W.hby hd) rfl (hz ▸ hr)
theorem g_iand (W : Wk kn p l e R s m args below meth c bytes maxL ret Z a0 EL own T O P k n) {x y z : Int32} (hd : decode bytes pc = .ok (.iand, 1)) (hz : x &&& y = z) (hq : pc + 1 = q) (K : Go p e below s R Z EL Q T (mkF m q L (.int z :: S))) : Go p e below s R Z EL Q T (mkF m pc L (.int y :: .int x :: S)) := by subst hq; exact K.step fun t hr => XS.iand W.here W.hx rfl (hb W.hby hd) rfl (hz ▸ hr)
theorem g_imul (W : Wk kn p l e R s m args below meth c bytes maxL ret Z a0 EL own T O P k n) {x y z : Int32} (hd : decode bytes pc = .ok (.imul, 1)) (hz : x * y = z) (hq : pc + 1 = q) (K : Go p e below s R Z EL Q T (mkF m q L (.int z :: S))) : Go p e below s R Z EL Q T (mkF m pc L (.int y :: .int x :: S)) := by subst hq; exact K.step fun t hr => XS.imul W.here W.hx rfl (hb W.hby hd) rfl (hz ▸ hr)
theorem g_ixor (W : Wk kn p l e R s m args below meth c bytes maxL ret Z a0 EL own T O P k n) {x y z : Int32} (hd : decode bytes pc = .ok (.ixor, 1)) (hz : x ^^^ y = z) (hq : pc + 1 = q) (K : Go p e below s R Z EL Q T (mkF m q L (.int z :: S))) : Go p e below s R Z EL Q T (mkF m pc L (.int y :: .int x :: S)) := by subst hq; exact K.step fun t hr => XT.ixor W.here W.hx rfl (hb W.hby hd) rfl (hz ▸ hr)
theorem g_ior (W : Wk kn p l e R s m args below meth c bytes maxL ret Z a0 EL own T O P k n) {x y z : Int32} (hd : decode bytes pc = .ok (.ior, 1)) (hz : x ||| y = z) (hq : pc + 1 = q) (K : Go p e below s R Z EL Q T (mkF m q L (.int z :: S))) : Go p e below s R Z EL Q T (mkF m pc L (.int y :: .int x :: S)) := by subst hq; exact K.step fun t hr => XT.ior W.here W.hx rfl (hb W.hby hd) rfl (hz ▸ hr)
theorem g_ishl (W : Wk kn p l e R s m args below meth c bytes maxL ret Z a0 EL own T O P k n) {x y z : Int32} (hd : decode bytes pc = .ok (.ishl, 1)) (hz : x <<< (y &&& 31) = z) (hq : pc + 1 = q) (K : Go p e below s R Z EL Q T (mkF m q L (.int z :: S))) : Go p e below s R Z EL Q T (mkF m pc L (.int y :: .int x :: S)) := by subst hq; exact K.step fun t hr => XT.ishl W.here W.hx rfl (hb W.hby hd) rfl (hz ▸ hr)
theorem g_ishr (W : Wk kn p l e R s m args below meth c bytes maxL ret Z a0 EL own T O P k n) {x y z : Int32} (hd : decode bytes pc = .ok (.ishr, 1)) (hz : x >>> (y &&& 31) = z) (hq : pc + 1 = q) (K : Go p e below s R Z EL Q T (mkF m q L (.int z :: S))) : Go p e below s R Z EL Q T (mkF m pc L (.int y :: .int x :: S)) := by subst hq; exact K.step fun t hr => XT.ishr W.here W.hx rfl (hb W.hby hd) rfl (hz ▸ hr)
theorem g_iushr (W : Wk kn p l e R s m args below meth c bytes maxL ret Z a0 EL own T O P k n) {x y z : Int32} (hd : decode bytes pc = .ok (.iushr, 1)) (hz : XT.ushr x y = z) (hq : pc + 1 = q) (K : Go p e below s R Z EL Q T (mkF m q L (.int z :: S))) : Go p e below s R Z EL Q T (mkF m pc L (.int y :: .int x :: S)) := by subst hq; exact K.step fun t hr => XT.iushr W.here W.hx rfl (hb W.hby hd) rfl (hz ▸ hr)
theorem g_irem (W : Wk kn p l e R s m args below meth c bytes maxL ret Z a0 EL own T O P k n) {x y z : Int32} (hd : decode bytes pc = .ok (.irem, 1)) (hy : y ≠ 0) (hz : x % y = z) (hq : pc + 1 = q) (K : Go p e below s R Z EL Q T (mkF m q L (.int z :: S))) : Go p e below s R Z EL Q T (mkF m pc L (.int y :: .int x :: S)) := by subst hq; exact K.step fun t hr => XS.irem W.here W.hx rfl (hb W.hby hd) rfl hy (by rw [show x - x / y * y = z from (irem_eq_mod x y).trans hz]; exact hr)
theorem g_land (W : Wk kn p l e R s m args below meth c bytes maxL ret Z a0 EL own T O P k n) {x y z : Int64} (hd : decode bytes pc = .ok (.land, 1)) (hz : x &&& y = z) (hq : pc + 1 = q) (K : Go p e below s R Z EL Q T (mkF m q L (.long z :: S))) : Go p e below s R Z EL Q T (mkF m pc L (.long y :: .long x :: S)) := by subst hq; exact K.step fun t hr => XT.land W.here W.hx rfl (hb W.hby hd) rfl (hz ▸ hr)
theorem g_lor (W : Wk kn p l e R s m args below meth c bytes maxL ret Z a0 EL own T O P k n) {x y z : Int64} (hd : decode bytes pc = .ok (.lor, 1)) (hz : x ||| y = z) (hq : pc + 1 = q) (K : Go p e below s R Z EL Q T (mkF m q L (.long z :: S))) : Go p e below s R Z EL Q T (mkF m pc L (.long y :: .long x :: S)) := by subst hq; exact K.step fun t hr => XT.lor W.here W.hx rfl (hb W.hby hd) rfl (hz ▸ hr)
theorem g_ladd (W : Wk kn p l e R s m args below meth c bytes maxL ret Z a0 EL own T O P k n) {x y z : Int64} (hd : decode bytes pc = .ok (.ladd, 1)) (hz : x + y = z) (hq : pc + 1 = q) (K : Go p e below s R Z EL Q T (mkF m q L (.long z :: S))) : Go p e below s R Z EL Q T (mkF m pc L (.long y :: .long x :: S)) := by subst hq; exact K.step fun t hr => XT.ladd W.here W.hx rfl (hb W.hby hd) rfl (hz ▸ hr)
theorem g_lushr (W : Wk kn p l e R s m args below meth c bytes maxL ret Z a0 EL own T O P k n) {x z : Int64} {y : Int32} (hd : decode bytes pc = .ok (.lushr, 1)) (hz : XT.ushrL x y = z) (hq : pc + 1 = q) (K : Go p e below s R Z EL Q T (mkF m q L (.long z :: S))) : Go p e below s R Z EL Q T (mkF m pc L (.int y :: .long x :: S)) := by subst hq; exact K.step fun t hr => XT.lushr W.here W.hx rfl (hb W.hby hd) rfl (hz ▸ hr)
theorem g_l2i (W : Wk kn p l e R s m args below meth c bytes maxL ret Z a0 EL own T O P k n) {x : Int64} {z : Int32} (hd : decode bytes pc = .ok (.l2i, 1)) (hz : x.toInt32 = z) (hq : pc + 1 = q) (K : Go p e below s R Z EL Q T (mkF m q L (.int z :: S))) : Go p e below s R Z EL Q T (mkF m pc L (.long x :: S)) := by subst hq; exact K.step fun t hr => XT.l2i W.here W.hx rfl (hb W.hby hd) rfl (hz ▸ hr)
theorem g_i2l (W : Wk kn p l e R s m args below meth c bytes maxL ret Z a0 EL own T O P k n) {x : Int32} {z : Int64} (hd : decode bytes pc = .ok (.i2l, 1)) (hz : x.toInt64 = z) (hq : pc + 1 = q) (K : Go p e below s R Z EL Q T (mkF m q L (.long z :: S))) : Go p e below s R Z EL Q T (mkF m pc L (.int x :: S)) := by subst hq; exact K.step fun t hr => XT.i2l W.here W.hx rfl (hb W.hby hd) rfl (hz ▸ hr)
theorem g_lcmp (W : Wk kn p l e R s m args below meth c bytes maxL ret Z a0 EL own T O P k n) {x y : Int64} {z : Int32} (hd : decode bytes pc = .ok (.lcmp, 1)) (hz : XT.cmpL x y = z) (hq : pc + 1 = q) (K : Go p e below s R Z EL Q T (mkF m q L (.int z :: S))) : Go p e below s R Z EL Q T (mkF m pc L (.long y :: .long x :: S)) := by subst hq; exact K.step fun t hr => XT.lcmp W.here W.hx rfl (hb W.hby hd) rfl (hz ▸ hr)
theorem g_i2b (W : Wk kn p l e R s m args below meth c bytes maxL ret Z a0 EL own T O P k n) {x z : Int32} (hd : decode bytes pc = .ok (.i2b, 1)) (hz : x.toInt8.toInt32 = z) (hq : pc + 1 = q) (K : Go p e below s R Z EL Q T (mkF m q L (.int z :: S))) : Go p e below s R Z EL Q T (mkF m pc L (.int x :: S)) := by subst hq; exact K.step fun t hr => XT.i2b W.here W.hx rfl (hb W.hby hd) rfl (hz ▸ hr)
theorem g_i2c (W : Wk kn p l e R s m args below meth c bytes maxL ret Z a0 EL own T O P k n) {x z : Int32} (hd : decode bytes pc = .ok (.i2c, 1)) (hz : x.toUInt32.toUInt16.toUInt32.toInt32 = z) (hq : pc + 1 = q) (K : Go p e below s R Z EL Q T (mkF m q L (.int z :: S))) : Go p e below s R Z EL Q T (mkF m pc L (.int x :: S)) := by subst hq; exact K.step fun t hr => XT.i2c W.here W.hx rfl (hb W.hby hd) rfl (hz ▸ hr)
theorem g_dup (W : Wk kn p l e R s m args below meth c bytes maxL ret Z a0 EL own T O P k n) {x : Value} (hd : decode bytes pc = .ok (.dup, 1)) (hc : x.category = 1) (hq : pc + 1 = q) (K : Go p e below s R Z EL Q T (mkF m q L (x :: x :: S))) : Go p e below s R Z EL Q T (mkF m pc L (x :: S)) := by subst hq; exact K.step fun t hr => XS.dup W.here W.hx rfl (hb W.hby hd) rfl hc hr
theorem g_dupX1 (W : Wk kn p l e R s m args below meth c bytes maxL ret Z a0 EL own T O P k n) {x y : Value} (hd : decode bytes pc = .ok (.dup_x1, 1)) (hc : x.category = 1) (hc' : y.category = 1) (hq : pc + 1 = q) (K : Go p e below s R Z EL Q T (mkF m q L (x :: y :: x :: S))) : Go p e below s R Z EL Q T (mkF m pc L (x :: y :: S)) := by subst hq; exact K.step fun t hr => XT.dupX1 W.here W.hx rfl (hb W.hby hd) rfl hc hc' hr
theorem g_pop (W : Wk kn p l e R s m args below meth c bytes maxL ret Z a0 EL own T O P k n) {x : Value} (hd : decode bytes pc = .ok (.pop, 1)) (hc : x.category = 1) (hq : pc + 1 = q) (K : Go p e below s R Z EL Q T (mkF m q L S)) : Go p e below s R Z EL Q T (mkF m pc L (x :: S)) := by subst hq; exact K.step fun t hr => XT.pop W.here W.hx rfl (hb W.hby hd) rfl hc hr
theorem g_iinc (W : Wk kn p l e R s m args below meth c bytes maxL ret Z a0 EL own T O P k n) {j : Nat} {cst : Int} {x z : Int32} {L' : Array Slot} (hd : decode bytes pc = .ok (.iinc j cst, 3)) (hl : L[j]? = some (.val (.int x))) (hz : x + Int32.ofInt cst = z) (hl' : storeLocals L j (.int z) = some L') (hq : pc + 3 = q) (K : Go p e below s R Z EL Q T (mkF m q L' S)) : Go p e below s R Z EL Q T (mkF m pc L S) := by subst hq; exact K.step fun t hr => XS.iinc W.here W.hx rfl (hb W.hby hd) hl (hz.symm ▸ hl') hr
theorem g_goto (W : Wk kn p l e R s m args below meth c bytes maxL ret Z a0 EL own T O P k n) {o : Int} (hd : decode bytes pc = .ok (.goto o, 3))  (ho : 0 ≤ (pc : Int) + o) (hq : ((pc : Int) + o).toNat = q) (K : Go p e below s R Z EL Q T (mkF m q L S)) : Go p e below s R Z EL Q T (mkF m pc L S) := by subst hq; exact K.step fun t hr => XS.goto W.here W.hx rfl (pc0 := pc) rfl (hb W.hby hd) ho rfl hr
theorem g_ifY (W : Wk kn p l e R s m args below meth c bytes maxL ret Z a0 EL own T O P k n) {o : Int} {cd : ClassFile.Cond} {x : Int32} (hd : decode bytes pc = .ok (.ifCond cd o, 3)) (hc : ifCond.holds cd x = true) (ho : 0 ≤ (pc : Int) + o) (hq : ((pc : Int) + o).toNat = q) (K : Go p e below s R Z EL Q T (mkF m q L S)) : Go p e below s R Z EL Q T (mkF m pc L (.int x :: S)) := by subst hq; exact K.step fun t hr => XS.ifYes W.here W.hx rfl (pc0 := pc) rfl (hb W.hby hd) rfl hc ho rfl hr
theorem g_ifN (W : Wk kn p l e R s m args below meth c bytes maxL ret Z a0 EL own T O P k n) {o : Int} {cd : ClassFile.Cond} {x : Int32} (hd : decode bytes pc = .ok (.ifCond cd o, 3)) (hc : ifCond.holds cd x = false) (hq : pc + 3 = q) (K : Go p e below s R Z EL Q T (mkF m q L S)) : Go p e below s R Z EL Q T (mkF m pc L (.int x :: S)) := by subst hq; exact K.step fun t hr => XS.ifNo W.here W.hx rfl (hb W.hby hd) rfl hc hr
theorem g_icY (W : Wk kn p l e R s m args below meth c bytes maxL ret Z a0 EL own T O P k n) {o : Int} {cd : ClassFile.Cond} {x y : Int32} (hd : decode bytes pc = .ok (.if_icmp cd o, 3)) (hc : if_icmp.holds cd x y = true) (ho : 0 ≤ (pc : Int) + o) (hq : ((pc : Int) + o).toNat = q) (K : Go p e below s R Z EL Q T (mkF m q L S)) : Go p e below s R Z EL Q T (mkF m pc L (.int y :: .int x :: S)) := by subst hq; exact K.step fun t hr => XS.icmpYes W.here W.hx rfl (pc0 := pc) rfl (hb W.hby hd) rfl hc ho rfl hr
theorem g_icN (W : Wk kn p l e R s m args below meth c bytes maxL ret Z a0 EL own T O P k n) {o : Int} {cd : ClassFile.Cond} {x y : Int32} (hd : decode bytes pc = .ok (.if_icmp cd o, 3)) (hc : if_icmp.holds cd x y = false) (hq : pc + 3 = q) (K : Go p e below s R Z EL Q T (mkF m q L S)) : Go p e below s R Z EL Q T (mkF m pc L (.int y :: .int x :: S)) := by subst hq; exact K.step fun t hr => XS.icmpNo W.here W.hx rfl (hb W.hby hd) rfl hc hr
theorem g_acY (W : Wk kn p l e R s m args below meth c bytes maxL ret Z a0 EL own T O P k n) {o : Int} {cd : ClassFile.ACond} {x y : Value} (hd : decode bytes pc = .ok (.if_acmp cd o, 3)) (h1 : x.isRef = true) (h2 : y.isRef = true) (hc : XT.acmp cd x y = true) (ho : 0 ≤ (pc : Int) + o) (hq : ((pc : Int) + o).toNat = q) (K : Go p e below s R Z EL Q T (mkF m q L S)) : Go p e below s R Z EL Q T (mkF m pc L (y :: x :: S)) := by subst hq; exact K.step fun t hr => XT.acmpYes W.here W.hx rfl (pc0 := pc) rfl (hb W.hby hd) rfl h1 h2 hc ho rfl hr
theorem g_acN (W : Wk kn p l e R s m args below meth c bytes maxL ret Z a0 EL own T O P k n) {o : Int} {cd : ClassFile.ACond} {x y : Value} (hd : decode bytes pc = .ok (.if_acmp cd o, 3)) (h1 : x.isRef = true) (h2 : y.isRef = true) (hc : XT.acmp cd x y = false) (hq : pc + 3 = q) (K : Go p e below s R Z EL Q T (mkF m q L S)) : Go p e below s R Z EL Q T (mkF m pc L (y :: x :: S)) := by subst hq; exact K.step fun t hr => XT.acmpNo W.here W.hx rfl (hb W.hby hd) rfl h1 h2 hc hr
theorem g_nullY (W : Wk kn p l e R s m args below meth c bytes maxL ret Z a0 EL own T O P k n) {o : Int} (hd : decode bytes pc = .ok (.ifnull o, 3))  (ho : 0 ≤ (pc : Int) + o) (hq : ((pc : Int) + o).toNat = q) (K : Go p e below s R Z EL Q T (mkF m q L S)) : Go p e below s R Z EL Q T (mkF m pc L (.null :: S)) := by subst hq; exact K.step fun t hr => XS.ifnullYes W.here W.hx rfl (pc0 := pc) rfl (hb W.hby hd) rfl ho rfl hr
theorem g_nullN (W : Wk kn p l e R s m args below meth c bytes maxL ret Z a0 EL own T O P k n) {o : Int} {b : Addr} (hd : decode bytes pc = .ok (.ifnull o, 3))  (hq : pc + 3 = q) (K : Go p e below s R Z EL Q T (mkF m q L S)) : Go p e below s R Z EL Q T (mkF m pc L (.ref b :: S)) := by subst hq; exact K.step fun t hr => XS.ifnullNo W.here W.hx rfl (hb W.hby hd) rfl hr
theorem g_nonnullY (W : Wk kn p l e R s m args below meth c bytes maxL ret Z a0 EL own T O P k n) {o : Int} {b : Addr} (hd : decode bytes pc = .ok (.ifnonnull o, 3))  (ho : 0 ≤ (pc : Int) + o) (hq : ((pc : Int) + o).toNat = q) (K : Go p e below s R Z EL Q T (mkF m q L S)) : Go p e below s R Z EL Q T (mkF m pc L (.ref b :: S)) := by subst hq; exact K.step fun t hr => XT.ifnonnullYes W.here W.hx rfl (pc0 := pc) rfl (hb W.hby hd) rfl ho rfl hr
theorem g_nonnullN (W : Wk kn p l e R s m args below meth c bytes maxL ret Z a0 EL own T O P k n) {o : Int} (hd : decode bytes pc = .ok (.ifnonnull o, 3))  (hq : pc + 3 = q) (K : Go p e below s R Z EL Q T (mkF m q L S)) : Go p e below s R Z EL Q T (mkF m pc L (.null :: S)) := by subst hq; exact K.step fun t hr => XT.ifnonnullNo W.here W.hx rfl (hb W.hby hd) rfl hr
theorem g_ldcI (W : Wk kn p l e R s m args below meth c bytes maxL ret Z a0 EL own T O P k n) {index : Nat} {v : Int32} (w : (Jvm.Cond.constant own index v).before a0 Z = true) (hd : decode bytes pc = .ok (.ldc index, 2)) (hq : pc + 2 = q) (K : Go p e below s R Z EL Q T (mkF m q L (.int v :: S))) : Go p e below s R Z EL Q T (mkF m pc L S) := by
  subst hq
  obtain ⟨⟨hx, hby, -⟩, locs, X, -, hZ, hown, -⟩ := W
  exact K.step fun t hr => Stand.ldcI X hx (own := own) hown (mv (s := s.setVm T.vm) hZ w) rfl (hb hby hd) hr
theorem g_getF (W : Wk kn p l e R s m args below meth c bytes maxL ret Z a0 EL own T O P k n) {index i : Nat} {a : Addr} {C F nm d : String} {sh : Shape} {vs : List Value} {v : Value} (hK : ∃ c, T.heap[a]? = some c ∧ ObjC Z C sh vs c) (hs : sh[i]? = some (F, nm, d)) (hv : vs[i]? = some v) (w : (Jvm.Cond.fieldLink own index F nm d).before a0 Z = true)
    (hd : decode bytes pc = .ok (.getfield index, 3)) (hq : pc + 3 = q) (K : ∀ T', Wk kn p l e R s m args below meth c bytes maxL ret Z a0 EL own T' O P k n → Go p e below s R Z EL Q T' (mkF m q L (v :: S))) : Go p e below s R Z EL Q T (mkF m pc L (.ref a :: S)) := by
  subst hq
  obtain ⟨cl, q1, q2⟩ := hK
  obtain ⟨⟨hx, hby, -⟩, locs, X, -, hZ, hown, N, -⟩ := id W
  obtain ⟨T1, X1, e1, st⟩ := getF X hx (s := s.setVm T.vm) hZ hown (host := "") (Or.inl w) Via.refl rfl ((q2.get hs hv).fld q1) (g := mkF m pc L (.ref a :: S)) rfl rfl (hb hby hd)
  exact (K T1 (W.same X1 e1 N)).step st
theorem g_getFU (W : Wk kn p l e R s m args below meth c bytes maxL ret Z a0 EL own T O P k n) {index i : Nat} {a : Addr} {C F R0 nm d : String} {sh : Shape} {vs : List Value} {v : Value} (hK : ∃ c, T.heap[a]? = some c ∧ ObjC Z C sh vs c) (hs : sh[i]? = some (F, nm, d)) (hv : vs[i]? = some v) (w : (Jvm.Cond.fieldLink own index R0 nm d).before a0 Z = true) (via : Via Z R0 F nm d)
    (hd : decode bytes pc = .ok (.getfield index, 3)) (hq : pc + 3 = q) (K : ∀ T', Wk kn p l e R s m args below meth c bytes maxL ret Z a0 EL own T' O P k n → Go p e below s R Z EL Q T' (mkF m q L (v :: S))) : Go p e below s R Z EL Q T (mkF m pc L (.ref a :: S)) := by
  subst hq
  obtain ⟨cl, q1, q2⟩ := hK
  obtain ⟨⟨hx, hby, -⟩, locs, X, -, hZ, hown, N, -⟩ := id W
  obtain ⟨T1, X1, e1, st⟩ := getF X hx (s := s.setVm T.vm) hZ hown (host := "") (Or.inl w) via rfl ((q2.get hs hv).fld q1) (g := mkF m pc L (.ref a :: S)) rfl rfl (hb hby hd)
  exact (K T1 (W.same X1 e1 N)).step st
theorem g_getS (W : Wk kn p l e R s m args below meth c bytes maxL ret Z a0 EL own T O P k n) {index : Nat} {F nm d : String} {v : Value} (hF : Sta Z Z.heap F nm d v) (w : (Jvm.Cond.fieldLink own index F nm d).before a0 Z = true)
    (hd : decode bytes pc = .ok (.getstatic index, 3)) (hq : pc + 3 = q) (K : ∀ T', Wk kn p l e R s m args below meth c bytes maxL ret Z a0 EL own T' O P k n → Go p e below s R Z EL Q T' (mkF m q L (v :: S))) : Go p e below s R Z EL Q T (mkF m pc L S) := by
  subst hq
  obtain ⟨⟨hx, hby, -⟩, locs, X, -, hZ, hown, N, -⟩ := id W
  obtain ⟨T1, X1, e1, st⟩ := getS X hx (s := s.setVm T.vm) hZ (host := "") hown w Via.refl rfl (hF.ext W.old) (g := mkF m pc L S) rfl (hb hby hd)
  exact (K T1 (W.same X1 e1 N)).step st
theorem g_putF (W : Wk kn p l e R s m args below meth c bytes maxL ret Z a0 EL own T O P k n) {i j index kk : Nat} {a : Addr} {C F nm d : String} {sh : Shape} {vs vs' : List Value} {v old : Value} {ty : FieldType} (hi : O[i]? = some (a, ObjC Z C sh vs)) (hsh : ShOk Z a0 C sh) (nd : (sh.map (·.2.1)).Nodup) (hs : sh[j]? = some (F, nm, d)) (ho : vs[j]? = some old) (w : (Jvm.Cond.fieldLink own index F nm d).before a0 Z = true)
    (hl : (Jvm.Cond.lays C F nm d).before a0 Z = true ∨ ((Jvm.Cond.laysFinal C F nm d).before a0 Z = true ∧ own = F ∧ meth.name = "<init>")) (wi : (Jvm.Cond.instantiable C kk).before a0 Z = true) (hty : parseFieldDescriptor d = some ty) (hn : narrow ty v = v) (hf : fits ty v = true)
    (hd : decode bytes pc = .ok (.putfield index, 3)) (hq : pc + 3 = q) (hvs : vs.set j v = vs') (hO : O.set i (a, ObjC Z C sh vs') = O') (K : ∀ T', Wk kn p l e R s m args below meth c bytes maxL ret Z a0 EL own T' O' P k n → Go p e below s R Z EL Q T' (mkF m q L S)) : Go p e below s R Z EL Q T (mkF m pc L (v :: .ref a :: S)) := by
  subst hq; subst hO; subst hvs
  obtain ⟨cl, q1, q2⟩ := W.ow hi
  obtain ⟨⟨hx, hby, -⟩, locs, X, -, hZ, hown, N, -⟩ := id W
  obtain ⟨T1, h1, X1, e1, Wr1, st⟩ := putF X hx (s := s.setVm T.vm) hZ hown (host := "") (Or.inl w) Via.refl rfl ((q2.get hs ho).fld q1) (q2.1.exa q1) hl wi hty hn hf (g := mkF m pc L (v :: .ref a :: S)) rfl rfl (hb hby hd)
  subst e1
  exact (K T1 (W.wrote X1 hi (Keep.of_wr Wr1) (Fr.snoc X1 N (W.fr hi)) (q2.set hsh nd hs Wr1 q1))).step st
theorem g_new (W : Wk kn p l e R s m args below meth c bytes maxL ret Z a0 EL own T O P k n) {index ns : Nat} {C : String} {sh : Shape} {ds : List Value} (hsh : ShOk Z a0 C sh) (hds : sh.map (fun f => (parseFieldDescriptor f.2.2).map defaultValue) = ds.map some) (w : (Jvm.Cond.classLink own index C).before a0 Z = true) (wi : (Jvm.Cond.instantiable C ns).before a0 Z = true) (wz : (Jvm.Cond.initialized C).before a0 Z = true)
    (hd : decode bytes pc = .ok (.new index, 3)) (hq : pc + 3 = q) (hk : k + 1 ≤ R.cells) (hn : n + ns ≤ R.slots) (K : ∀ a T', Wk kn p l e R s m args below meth c bytes maxL ret Z a0 EL own T' ((a, ObjC Z C sh ds) :: O) P (k + 1) (n + ns) → Go p e below s R Z EL Q T' (mkF m q L (.ref a :: S))) : Go p e below s R Z EL Q T (mkF m pc L S) := by
  subst hq
  obtain ⟨⟨hx, hby, -⟩, locs, X, -, hZ, hown, N, -⟩ := id W
  obtain ⟨T1, h1, X1, e1, E1, A1, D1, -, st⟩ := newO X hx (s := s.setVm T.vm) hZ hown w wi wz rfl (g := mkF m pc L S) rfl (hb hby hd) hk hn
  subst e1
  refine (K _ T1 (W.made X1 E1 N ?_)).step st
  obtain ⟨cl, q1, q2⟩ := exaC A1
  refine ⟨cl, q1, q2, fun i f v hi hv => fldC q1 ?_⟩
  obtain ⟨L1, t, ht⟩ := hsh i f hi
  have e1 := congrArg (fun z => z[i]?) hds
  simp only [List.getElem?_map, hi, hv, Option.map_some, ht, Option.some.injEq] at e1
  rw [← e1]
  exact D1 L1 ht
theorem g_newA (W : Wk kn p l e R s m args below meth c bytes maxL ret Z a0 EL own T O P k n) {aty : ArrayType} {ty : FieldType} {z : Int32} {cap : Nat} {vs : List Value} (hty : newarray.typeOf aty = ty) (w : (Jvm.Cond.arrayClass ty).before a0 Z = true) (hz : ¬ z < 0) (hcap : z.toNatClampNeg ≤ cap) (hb' : cap * 8 ≤ 536870912) (hdf : fits ty (defaultValue ty) = true) (hvs : List.replicate z.toNatClampNeg (defaultValue ty) = vs)
    (hd : decode bytes pc = .ok (.newarray aty, 2)) (hq : pc + 2 = q) (hk : k + 1 ≤ R.cells) (hn : n + cap ≤ R.slots) (K : ∀ a T', Wk kn p l e R s m args below meth c bytes maxL ret Z a0 EL own T' ((a, ArrC Z ty vs) :: O) P (k + 1) (n + cap) → Go p e below s R Z EL Q T' (mkF m q L (.ref a :: S))) : Go p e below s R Z EL Q T (mkF m pc L (.int z :: S)) := by
  subst hq; subst hvs; subst hty
  obtain ⟨⟨hx, hby, -⟩, locs, X, -, hZ, hown, N, -⟩ := id W
  obtain ⟨T1, h1, cA, X1, e1, E1, A1, st⟩ := newP X hx (s := s.setVm T.vm) hZ w rfl (g := mkF m pc L (.int z :: S)) rfl (hb hby hd) rfl hz hcap hb' hk hn
  subst e1
  exact (K _ T1 (W.made X1 E1 N (ArrC.new A1 hz hdf))).step st
theorem g_len (W : Wk kn p l e R s m args below meth c bytes maxL ret Z a0 EL own T O P k n) {a : Addr} {ty : FieldType} {vs : List Value} {z : Int32} (hK : ∃ c, T.heap[a]? = some c ∧ ArrC Z ty vs c) (hz : vs.length.toInt32 = z) (hd : decode bytes pc = .ok (.arraylength, 1)) (hq : pc + 1 = q) (K : Go p e below s R Z EL Q T (mkF m q L (.int z :: S))) : Go p e below s R Z EL Q T (mkF m pc L (.ref a :: S)) := by
  subst hq; subst hz
  obtain ⟨cl, q1, q2⟩ := hK
  obtain ⟨⟨hx, hby, -⟩, locs, X, -, hZ, hown, N, -⟩ := id W
  exact K.step fun t hr => X.arraylength hx q1 (State.isArrayOf_alike (s := Z) hZ.alike q2.1) (g := mkF m pc L (.ref a :: S)) rfl rfl (hb hby hd) t (by rw [q2.size]; exact hr)
theorem own_inb {vs : List Value} {cl : Cell} {ty : FieldType} {j : Int32} {i : Nat} {v : Value} (F : ArrC Z ty vs cl) (hj : ¬ j < 0) (hji : j.toNatClampNeg = i) (hv : vs[i]? = some v) : ¬ (j < 0 ∨ cl.slots.size ≤ j.toNatClampNeg) ∧ cl.slots[j.toNatClampNeg]? = some v := by
  subst hji
  refine ⟨fun z => ?_, F.at hv⟩
  rcases z with z | z
  · exact hj z
  · rw [F.size] at z
    rw [List.getElem?_eq_none z] at hv; cases hv
theorem g_caload (W : Wk kn p l e R s m args below meth c bytes maxL ret Z a0 EL own T O P k n) {a : Addr} {vs : List Value} {j : Int32} {i : Nat} {v : Value} (hK : ∃ c, T.heap[a]? = some c ∧ ArrC Z .char vs c) (hj : ¬ j < 0) (hji : j.toNatClampNeg = i) (hv : vs[i]? = some v) (hd : decode bytes pc = .ok (.caload, 1)) (hq : pc + 1 = q) (K : Go p e below s R Z EL Q T (mkF m q L (v :: S))) : Go p e below s R Z EL Q T (mkF m pc L (.int j :: .ref a :: S)) := by
  subst hq
  obtain ⟨cl, q1, q2⟩ := hK
  obtain ⟨⟨hx, hby, -⟩, locs, X, -, hZ, hown, N, -⟩ := id W
  obtain ⟨i1, i2⟩ := own_inb q2 hj hji hv
  exact K.step fun t hr => X.caload hx q1 (State.isArrayOf_alike (s := Z) hZ.alike q2.1) q2.2.1 i1 i2 (g := mkF m pc L (.int j :: .ref a :: S)) rfl rfl (hb hby hd) t hr
theorem g_baload (W : Wk kn p l e R s m args below meth c bytes maxL ret Z a0 EL own T O P k n) {a : Addr} {vs : List Value} {j : Int32} {i : Nat} {v : Value} (hK : ∃ c, T.heap[a]? = some c ∧ ArrC Z .byte vs c) (hj : ¬ j < 0) (hji : j.toNatClampNeg = i) (hv : vs[i]? = some v) (hd : decode bytes pc = .ok (.baload, 1)) (hq : pc + 1 = q) (K : Go p e below s R Z EL Q T (mkF m q L (v :: S))) : Go p e below s R Z EL Q T (mkF m pc L (.int j :: .ref a :: S)) := by
  subst hq
  obtain ⟨cl, q1, q2⟩ := hK
  obtain ⟨⟨hx, hby, -⟩, locs, X, -, hZ, hown, N, -⟩ := id W
  obtain ⟨i1, i2⟩ := own_inb q2 hj hji hv
  exact K.step fun t hr => X.baloadBytes hx q1 (State.isArrayOf_alike (s := Z) hZ.alike q2.1) q2.2.1 i1 i2 (g := mkF m pc L (.int j :: .ref a :: S)) rfl rfl (hb hby hd) t hr
theorem g_castore (W : Wk kn p l e R s m args below meth c bytes maxL ret Z a0 EL own T O P k n) {a : Addr} {vs vs' : List Value} {j x y : Int32} {i ii : Nat} {old : Value} (hi : O[i]? = some (a, ArrC Z .char vs)) (hj : ¬ j < 0) (hji : j.toNatClampNeg = ii) (ho : vs[ii]? = some old) (hy : nar .char x = y) (hd : decode bytes pc = .ok (.castore, 1)) (hq : pc + 1 = q) (hvs : vs.set ii (.int y) = vs') (hO : O.set i (a, ArrC Z .char vs') = O')
    (K : ∀ T', Wk kn p l e R s m args below meth c bytes maxL ret Z a0 EL own T' O' P k n → Go p e below s R Z EL Q T' (mkF m q L S)) : Go p e below s R Z EL Q T (mkF m pc L (.int x :: .int j :: .ref a :: S)) := by
  subst hq; subst hO; subst hvs; subst hy; subst hji
  obtain ⟨cl, q1, q2⟩ := W.ow hi
  obtain ⟨⟨hx, hby, -⟩, locs, X, -, hZ, hown, N, -⟩ := id W
  obtain ⟨i1, i2⟩ := own_inb q2 hj rfl ho
  obtain ⟨T1, h1, X1, e1, Wr1, st⟩ := stC X hx (s := s.setVm T.vm) hZ rfl (q2.arr q1) i1 (g := mkF m pc L (.int x :: .int j :: .ref a :: S)) rfl rfl (hb hby hd)
  subst e1
  exact (K T1 (W.wrote X1 hi (Keep.of_wr Wr1) (Fr.snoc X1 N (W.fr hi)) (q2.set (fits_nar_char x) Wr1 q1))).step st
theorem g_bastore (W : Wk kn p l e R s m args below meth c bytes maxL ret Z a0 EL own T O P k n) {a : Addr} {vs vs' : List Value} {j x y : Int32} {i ii : Nat} {old : Value} (hi : O[i]? = some (a, ArrC Z .byte vs)) (hj : ¬ j < 0) (hji : j.toNatClampNeg = ii) (ho : vs[ii]? = some old) (hy : nar .byte x = y) (hd : decode bytes pc = .ok (.bastore, 1)) (hq : pc + 1 = q) (hvs : vs.set ii (.int y) = vs') (hO : O.set i (a, ArrC Z .byte vs') = O')
    (K : ∀ T', Wk kn p l e R s m args below meth c bytes maxL ret Z a0 EL own T' O' P k n → Go p e below s R Z EL Q T' (mkF m q L S)) : Go p e below s R Z EL Q T (mkF m pc L (.int x :: .int j :: .ref a :: S)) := by
  subst hq; subst hO; subst hvs; subst hy; subst hji
  obtain ⟨cl, q1, q2⟩ := W.ow hi
  obtain ⟨⟨hx, hby, -⟩, locs, X, -, hZ, hown, N, -⟩ := id W
  obtain ⟨i1, i2⟩ := own_inb q2 hj rfl ho
  obtain ⟨T1, h1, X1, e1, Wr1, st⟩ := stB X hx (s := s.setVm T.vm) hZ rfl (q2.arr q1) i1 (g := mkF m pc L (.int x :: .int j :: .ref a :: S)) rfl rfl (hb hby hd)
  subst e1
  exact (K T1 (W.wrote X1 hi (Keep.of_wr Wr1) (Fr.snoc X1 N (W.fr hi)) (q2.set (fits_nar_byte x) Wr1 q1))).step st
theorem g_cast (W : Wk kn p l e R s m args below meth c bytes maxL ret Z a0 EL own T O P k n) {a : Addr} {index : Nat} {C D : String} (hK : ∃ c, T.heap[a]? = some c ∧ ExaC Z C c) (w : (Jvm.Cond.classLink own index D).before a0 Z = true) (wc : (Jvm.Cond.castable C D).before a0 Z = true) (hd : decode bytes pc = .ok (.checkcast index, 3)) (hq : pc + 3 = q)
    (K : ∀ T', Wk kn p l e R s m args below meth c bytes maxL ret Z a0 EL own T' O P k n → Go p e below s R Z EL Q T' (mkF m q L (.ref a :: S))) : Go p e below s R Z EL Q T (mkF m pc L (.ref a :: S)) := by
  subst hq
  obtain ⟨cl, q1, q2⟩ := hK
  obtain ⟨⟨hx, hby, -⟩, locs, X, -, hZ, hown, N, -⟩ := id W
  obtain ⟨T1, X1, e1, st⟩ := castY X hx (s := s.setVm T.vm) hZ hown w rfl (Ins.of_exa (q2.exa q1) wc) (g := mkF m pc L (.ref a :: S)) rfl rfl (hb hby hd)
  exact (K T1 (W.same X1 e1 N)).step st
theorem g_inst (W : Wk kn p l e R s m args below meth c bytes maxL ret Z a0 EL own T O P k n) {a : Addr} {index : Nat} {C D : String} (hK : ∃ c, T.heap[a]? = some c ∧ ExaC Z C c) (w : (Jvm.Cond.classLink own index D).before a0 Z = true) (wc : (Jvm.Cond.castable C D).before a0 Z = true) (hd : decode bytes pc = .ok (.instanceof index, 3)) (hq : pc + 3 = q)
    (K : ∀ T', Wk kn p l e R s m args below meth c bytes maxL ret Z a0 EL own T' O P k n → Go p e below s R Z EL Q T' (mkF m q L (.int 1 :: S))) : Go p e below s R Z EL Q T (mkF m pc L (.ref a :: S)) := by
  subst hq
  obtain ⟨cl, q1, q2⟩ := hK
  obtain ⟨⟨hx, hby, -⟩, locs, X, -, hZ, hown, N, -⟩ := id W
  obtain ⟨T1, X1, e1, st⟩ := instY X hx (s := s.setVm T.vm) hZ hown w rfl (Ins.of_exa (q2.exa q1) wc) (g := mkF m pc L (.ref a :: S)) rfl rfl (hb hby hd)
  exact (K T1 (W.same X1 e1 N)).step st
theorem g_objInit (W : Wk kn p l e R s m args below meth c bytes maxL ret Z a0 EL own T O P k n) {a : Addr} {index : Nat} (w1 : (Jvm.Cond.methodLink own index Lib.objectInit).before a0 Z = true) (w2 : (Jvm.Cond.instanceMethod Lib.objectInit).before a0 Z = true) (w3 : (Jvm.Cond.code Lib.objectInit ⟨#[0xb1]⟩ 1 none).before a0 Z = true) (hd : decode bytes pc = .ok (.invokespecial index, 3)) (hq : pc + 3 = q)
    (hL : L.size = maxL) (hf : 1 ≤ R.frames) (hl : (S.map fun v => v.category).sum + 12 ≤ R.locals) (K : ∀ T', Wk kn p l e R s m args below meth c bytes maxL ret Z a0 EL own T' O P k n → Go p e below s R Z EL Q T' (mkF m q L S)) : Go p e below s R Z EL Q T (mkF m pc L (.ref a :: S)) := by
  subst hq
  obtain ⟨⟨hx, hby, hml, -⟩, locs, X, -, hZ, hown, N, -⟩ := id W
  obtain ⟨T1, X1, e1, st⟩ := initO X hx (s := s.setVm T.vm) hZ hown w1 w2 w3 rfl (g := mkF m pc L (.ref a :: S)) rfl (hL.trans hml.symm) rfl (hb hby hd) hf (W := (S.map fun v => v.category).sum) (by show 2 * 0 + _ ≤ _; omega) hl
  exact (K T1 (W.same X1 e1 N)).step st
/-- ldc of a String constant; what it says isn't asked -/
theorem g_ldcO (W : Wk kn p l e R s m args below meth c bytes maxL ret Z a0 EL own T O P k n) {index nn : Nat} {text : String} (w : (Jvm.Cond.stringLink own index text).before a0 Z = true) (wS : ∀ a ∈ Bundle.stringAtoms, a.before a0 Z = true) (hd : decode bytes pc = .ok (.ldc index, 2)) (hq : pc + 2 = q) (hnn : 4 * text.toList.length ≤ nn) (hbig : nn ≤ 536870912) (hk : k + 2 ≤ R.cells) (hn : n + (nn + 4) ≤ R.slots)
    (K : ∀ a T', Wk kn p l e R s m args below meth c bytes maxL ret Z a0 EL own T' O P (k + 2) (n + (nn + 4)) → Go p e below s R Z EL Q T' (mkF m q L (.ref a :: S))) : Go p e below s R Z EL Q T (mkF m pc L S) := by
  subst hq
  obtain ⟨⟨hx, hby, -, -, -, hEL, -⟩, locs, X, hS, hZ, hown, N, -⟩ := id W
  obtain ⟨a, T1, h1, k1, X1, e1, E1, hS1, hk1, hZ1, hf1, A1, -, st⟩ := ldcOH X hx hZ hown w wS rfl hS (Nat.le_refl _) hEL W.chv (g := mkF m pc L S) rfl (hb hby hd) hnn hbig hk hn
  subst e1
  refine (K a T1 (W.core X1 (own_since hS1 hk1) hZ1 hf1 N A1 ⟨Nat.le_trans W.old.1 E1.1, fun a c q => E1.2 _ _ (W.old.2 _ _ q)⟩ (W.lay.mono A1 E1))).step st
def shStr : Shape := [("java/lang/String", "value", "[B"), ("java/lang/String", "coder", "B")]
/-- ldc of a String constant whose text is read -/
theorem g_ldcH (W : Wk kn p l e R s m args below meth c bytes maxL ret Z a0 EL own T O P k n) {index nn : Nat} {text : String} {vs : List Value} (w : (Jvm.Cond.stringLink own index text).before a0 Z = true) (wS : ∀ a ∈ Bundle.stringAtoms, a.before a0 Z = true) (hmem : (own, index) ∈ EL)
    (ht : (∀ c ∈ text.toList, c.toNat < 256) ∧ text.toList.map (fun c => Value.int (Jvm.Lit.byteI c.toNat.toUInt16)) = vs) (hlen : vs.length < 2 ^ 31) (hfit : ∀ v ∈ vs, fits .byte v = true) (hd : decode bytes pc = .ok (.ldc index, 2)) (hq : pc + 2 = q) (hnn : 4 * text.toList.length ≤ nn) (hbig : nn ≤ 536870912) (hk : k + 2 ≤ R.cells) (hn : n + (nn + 4) ≤ R.slots)
    (K : ∀ a b T', Wk kn p l e R s m args below meth c bytes maxL ret Z a0 EL own T' O ((a, ObjC Z "java/lang/String" shStr [.ref b, .int 0]) :: (b, ArrC Z .byte vs) :: P) (k + 2) (n + (nn + 4)) → Go p e below s R Z EL Q T' (mkF m q L (.ref a :: S))) : Go p e below s R Z EL Q T (mkF m pc L S) := by
  subst hq
  obtain ⟨⟨hx, hby, -, -, -, hEL, -⟩, locs, X, hS, hZ, hown, N, -⟩ := id W
  have z1 : (vs.length.toInt32).toInt = vs.length := len_toInt hlen
  have z0 : ¬ vs.length.toInt32 < 0 := fun z => by rw [Int32.lt_iff_toInt_lt, z1] at z; exact absurd z (by simp)
  have z2 : (vs.length.toInt32).toNatClampNeg = vs.length := by simp only [Int32.toNatClampNeg, z1]; rfl
  obtain ⟨a, T1, h1, k1, b, kc, X1, e1, E1, hS1, hk1, hZ1, hf1, Ex, F1, F2, Av, -, -, A1, -, ne, st⟩ := ldcCH X hx hZ hown w wS rfl hS (Nat.le_refl _) hEL hmem W.chv ht z0 z2 (g := mkF m pc L S) rfl (hb hby hd) hnn hbig hk hn
  subst e1
  have L1 := W.lay.mono A1 E1
  have na : ∀ (i : Nat) (x : Ent), O[i]? = some x → x.1 ≠ a := fun i x q => (ne _ (L1.1 i x q).2.2).1
  have nb : ∀ (i : Nat) (x : Ent), O[i]? = some x → x.1 ≠ b := fun i x q => (ne _ (L1.1 i x q).2.2).2
  obtain ⟨cl, q1, q2⟩ := exaC Ex
  obtain ⟨cb, ⟨r1, r2, r3⟩, -, r5, -, r7, -⟩ := Av
  refine (K a b T1 (W.core X1 (own_since hS1 hk1) hZ1 hf1 N A1 ⟨Nat.le_trans W.old.1 E1.1, fun a c q => E1.2 _ _ (W.old.2 _ _ q)⟩ ((L1.ro (φ := ArrC Z .byte vs) ⟨cb, r1, r2, r3, ?_, hfit, hlen⟩ nb).ro ⟨cl, q1, q2, fun i f v hi hv => ?_⟩ na))).step st
  · rw [z2] at r5
    refine List.ext_getElem? fun i => ?_
    rcases Nat.lt_or_ge i vs.length with z | z
    · have e1 := r7 i (by rw [r5]; exact z)
      rw [Array.getElem?_toList, e1, List.getD_eq_getElem?_getD, List.getElem?_eq_getElem z]; rfl
    · rw [List.getElem?_eq_none z, List.getElem?_eq_none (by simpa [r5] using z)]
  · match i, hi, hv with
    | 0, hi, hv => cases hi; cases hv; exact fldC q1 F2
    | 1, hi, hv => cases hi; cases hv; exact fldC q1 F1
    | i + 2, hi, hv => simp [shStr] at hi
theorem own_mono {s : State} {o : Outcome} {t : State} {L : List Loc} {k n k' n' : Nat} (h : ReturnedEndW s o t L k n) (hk : k ≤ k') (hn : n ≤ n') : ReturnedEndW s o t L k' n' := ⟨h.1, h.2.1, h.2.2.1, h.2.2.2.mono hk hn⟩
theorem g_ret (W : Wk kn p l e R s m args below meth c bytes maxL ret Z a0 EL own T O P k n) {v : Value} {t : FieldType} {i : Instr} (hret : ret = some t) (hn : narrow t v = v)
    (hi : (i = .ireturn ∧ (t = .int ∨ t = .boolean ∨ t = .byte ∨ t = .char ∨ t = .short) ∧ ∃ z, v = .int z) ∨ (i = .lreturn ∧ t = .long ∧ ∃ z, v = .long z) ∨ (i = .dreturn ∧ t = .double ∧ ∃ z, v = .double z) ∨ (i = .freturn ∧ t = .float ∧ ∃ z, v = .float z) ∨ (i = .areturn ∧ t.isReference = true ∧ v.isRef = true))
    (hd : decode bytes pc = .ok (i, 1)) (hk : k ≤ R.cells) (hs : n ≤ R.slots) (hQ : Q (some v) O P) : Go p e below s R Z EL Q T (mkF m pc L (v :: S)) := by
  subst hret
  obtain ⟨⟨hx, hby, -, hr, hlk, -⟩, locs, X, hS, hZ, hown, N, H, E, La⟩ := W
  obtain ⟨fs, h1, h2, h3, h4⟩ := X.leaveW hS (Nat.le_refl _) (v := some v) (fun z => by rw [hr] at z; cases z) hlk
  exact ⟨_, _, retOut X hx hr hn hi (hb hby hd) h1, h2, h3, _, _, rfl, H, own_mono h4 hk hs, N, E, O, P, La, hQ⟩
theorem g_retI (W : Wk kn p l e R s m args below meth c bytes maxL ret Z a0 EL own T O P k n) {v : Int32} {t : FieldType} (hret : ret = some t) (ht : t = .int ∨ t = .boolean ∨ t = .byte ∨ t = .char ∨ t = .short) (hn : narrow t (.int v) = .int v) (hd : decode bytes pc = .ok (.ireturn, 1)) (hk : k ≤ R.cells) (hs : n ≤ R.slots) (hQ : Q (some (.int v)) O P) : Go p e below s R Z EL Q T (mkF m pc L (.int v :: S)) :=
  g_ret W hret hn (Or.inl ⟨rfl, ht, v, rfl⟩) hd hk hs hQ
theorem own_nar {t : FieldType} {v : Value} (ht : t.isReference = true) (hv : v.isRef = true) : narrow t v = v := by
  cases t <;> first | (cases ht; done) | (cases v <;> first | (cases hv; done) | rfl)
theorem g_retA (W : Wk kn p l e R s m args below meth c bytes maxL ret Z a0 EL own T O P k n) {v : Value} {t : FieldType} (hret : ret = some t) (ht : t.isReference = true) (hv : v.isRef = true) (hd : decode bytes pc = .ok (.areturn, 1)) (hk : k ≤ R.cells) (hs : n ≤ R.slots) (hQ : Q (some v) O P) : Go p e below s R Z EL Q T (mkF m pc L (v :: S)) :=
  g_ret W hret (own_nar ht hv) (Or.inr (Or.inr (Or.inr (Or.inr ⟨rfl, ht, hv⟩)))) hd hk hs hQ
theorem g_retV (W : Wk kn p l e R s m args below meth c bytes maxL ret Z a0 EL own T O P k n) (hret : ret = none) (hd : decode bytes pc = .ok (.return_, 1)) (hk : k ≤ R.cells) (hs : n ≤ R.slots) (hQ : Q none O P) : Go p e below s R Z EL Q T (mkF m pc L []) := by
  subst hret
  obtain ⟨⟨hx, hby, -, hr, hlk, -⟩, locs, X, hS, hZ, hown, N, H, E, La⟩ := W
  obtain ⟨fs, h1, h2, h3, h4⟩ := X.leaveW hS (Nat.le_refl _) (v := none) (fun z => rfl) hlk
  exact ⟨_, _, X.returnOut hx hr (hb hby hd) h1, h2, h3, _, _, rfl, H, own_mono h4 hk hs, N, E, O, P, La, hQ⟩
end OwnSteps
/-! contracts -/
section OwnCon
variable {kn : Prop} {p : Program} {l : Launch} {e : Env} {R : Room} {s : State} {m : MethodId} {args : Array Value} {below : List Frame} {meth : Method} {c : Code} {bytes bytes' : ByteArray} {maxL maxL' : Nat} {ret ret' : Option FieldType} {Z : State} {a0 : Array Value} {EL : List (String × Nat)} {own : String} {T T' : State} {O O' P P' : List Ent} {k n k' n' : Nat} {Q Q' : Option Value → List Ent → List Ent → Prop} {g g' : JFrame} {pc q : Nat} {L : Array Slot} {S : List Value} {rm : Room} {ws : List Jvm.Cond} {as' : Array Value} {y : MethodName}
theorem con_intro (hy : plainFor y = true) (hEL : EW Z a0 EL) (ef : ∀ m, entryFrame m as' maxL = mkF m 0 L [])
    (body : ∀ p e s m below meth c T, Wk kn p l e rm s m as' below meth c bytes maxL ret Z a0 EL y.cls T O P 0 0 → meth.name = y.name → Go p e below s rm Z EL Q T (mkF m 0 L [])) : Con kn l Z EL y bytes maxL ret ws rm as' O P Q := by
  refine MetFree.of_bodySF hy hisR ?_
  intro p e s m args below meth c s₁ Bd hml0 hP hK
  obtain ⟨rfl, hZ, hC, hE, hL⟩ := hP
  have X0 : Stand p l e rm s m args below meth c s₁ [] 0 0 := Stand.of_body Bd
  have eh : s₁.heap = s.heap := by rw [Bd.state]; rfl
  have A : CHr Z EL s.vm s.heap s₁.vm s.heap := CHv.at (s := s) (vm0 := s.vm) X0 hZ hEL hC
  have W : Wk kn p l e rm s m args below meth c bytes maxL ret Z a0 EL y.cls s₁ O P 0 0 := by
    refine ⟨⟨Bd.exec, Bd.bytes, hml0, Bd.returns, Bd.notSynchronized, hEL, fun z => ⟨hK z, hE⟩⟩, [], X0.retabled X0.warmed.wide, X0.warmed.since _, wtrans hZ X0.warmed, ?_, Fr.nil _, by rw [eh]; exact A, by rw [eh]; exact hE, by rw [eh]; exact hL.mono A ⟨Nat.le_refl _, fun _ _ q => q⟩⟩
    rw [X0.warmed.alike.findClass]; exact findClass_of_methodNamed Bd.named
  obtain ⟨t, o, h1, h2, h3, h4⟩ := body p e s m below meth c s₁ W (name_of_methodNamed Bd.named Bd.method).1
  exact ⟨t, o, by rw [ef]; exact h1, h2, h3, h4⟩
/-- who pays a call: the callee's contract -/
theorem own_back (C : Con kn l Z EL y bytes' maxL' ret' [] rm as' O P Q') (W : Wk kn p l e R s m args below meth c bytes maxL ret Z a0 EL own T O P k n) (wc : (Jvm.Cond.code y bytes' maxL' ret').before a0 Z = true) (wz : (Jvm.Cond.initialized y.cls).before a0 Z = true) {len V : Nat} (hf : rm.frames + 1 ≤ R.frames) (hl : V + (maxL' + 11) + rm.locals ≤ R.locals) :
    BackS l R p e below (s.setVm T.vm) args y len V (fun A a => a = as' ∧ A.U.heap = T.heap ∧ A.cells + rm.cells ≤ R.cells ∧ A.slots + rm.slots ≤ R.slots)
      (fun A _ v B => ∃ L, B.locs = A.locs ++ L ∧ B.cells = A.cells + rm.cells ∧ B.slots = A.slots + rm.slots ∧ Fr Z.heap.size L ∧ CHr Z EL T.vm T.heap B.U.vm B.U.heap ∧ Ext Z.heap B.U.heap ∧ ∃ O' P', Lay Z EL B.U.vm B.U.heap O' P' ∧ Q' v O' P') := by
  have hZ := W.hZ
  have hEL : EW Z a0 EL := W.1.2.2.2.2.2.1
  have hkn := W.1.2.2.2.2.2.2
  have H := W.chv
  refine BackS.of_freeWG (bytes := bytes') (maxL := maxL') (ret := ret') (E := fun _ first o t L k n => k = rm.cells ∧ n = rm.slots ∧ ∃ v, o = .returned v ∧ CHr Z EL first.vm first.heap t.vm t.heap ∧ Fr Z.heap.size L ∧ Ext Z.heap t.heap ∧ ∃ O' P', Lay Z EL t.vm t.heap O' P' ∧ Q' v O' P') C hf hl ?_ ?_ ?_ ?_ ?_
  · intro m meth c A a Y hp
    have hU : Z.Warmed39 A.U.vm := wtrans (s := s.setVm T.vm) hZ Y.warmed
    exact ⟨by show (Jvm.Cond.and _ .tt).before a A.U = true; rw [Cond.before_and, mv hU wc]; rfl, mv hU wc, mv hU wz, hp.2.2.1, hp.2.2.2⟩
  · intro m meth c A a g mk Y hp
    have B := CHv.at Y hZ hEL H
    refine ⟨hp.1, wtrans (s := s.setVm T.vm) hZ Y.warmed, ?_, ?_, ?_⟩
    · show CHv Z EL A.U.vm A.U.heap; rw [hp.2.1]; exact B.1
    · show Ext Z.heap A.U.heap; rw [hp.2.1]; exact W.old
    · show Lay Z EL A.U.vm A.U.heap O P; rw [hp.2.1]; exact W.lay.mono B ⟨Nat.le_refl _, fun _ _ q => q⟩
  · intro m meth c A a g mk Y hp hg hkk
    obtain ⟨⟨k1, k2⟩, -⟩ := hkn hkk
    obtain ⟨-, locs, X, hS, -⟩ := id W
    exact known_frames Y hg (Vm.MethodsKnown.alikeC hS.1.alike k1) (Vm.FramesKnown.alikeC hS.1.alike k2)
  · intro a first o t hQ
    obtain ⟨v, L, h1, h2, h3, h4, h5, h6⟩ := hQ
    exact ⟨L, _, _, h3, rfl, rfl, v, h1, h2, h4, h5, h6⟩
  · intro m meth c A a g mk v t L k n Y hp _ _ hE
    obtain ⟨rfl, rfl, v', e3, h2, h4, h5, h6⟩ := hE
    cases e3
    refine ⟨L, rfl, rfl, rfl, h4, (CHv.at Y hZ hEL H).trans ?_, h5, h6⟩
    rw [← hp.2.1]; exact h2
theorem own_after {A B : Pt} {v : Option Value} {vm₁ : Vm} (W : Wk kn p l e R s m args below meth c bytes maxL ret Z a0 EL own T O P k n) {locs : List Loc} (N : Fr Z.heap.size locs) (X : Stand p l e R ((s.setVm T.vm).setVm B.U.vm) m args below meth c B.U B.locs B.cells B.slots) (hS : (s.setVm T.vm).Since B.U.vm B.U.heap.size) (hle : T.heap.size ≤ B.U.heap.size)
    (hP : ∃ L, B.locs = locs ++ L ∧ B.cells = k + rm.cells ∧ B.slots = n + rm.slots ∧ Fr Z.heap.size L ∧ CHr Z EL T.vm T.heap B.U.vm B.U.heap ∧ Ext Z.heap B.U.heap ∧ ∃ O' P', Lay Z EL B.U.vm B.U.heap O' P' ∧ Q' v O' P') :
    ∃ O' P', Wk kn p l e R s m args below meth c bytes maxL ret Z a0 EL own B.U O' P' (k + rm.cells) (n + rm.slots) ∧ Q' v O' P' := by
  obtain ⟨L, h1, h2, h3, h4, h5, h6, O', P', h7, h8⟩ := hP
  rw [h1, h2, h3] at X
  exact ⟨O', P', W.coreS X hS hle (N.app h4) h5 h6 h7, h8⟩
theorem g_static (W : Wk kn p l e R s m args below meth c bytes maxL ret Z a0 EL own T O P k n) (C : Con kn l Z EL y bytes' maxL' ret' [] rm as' O P Q') {index : Nat} {argsL rest : List Value} {ps : List FieldType} {rt : Option FieldType} (has : argsL.toArray = as') (hS : S = argsL.reverse ++ rest) (hpd : parseMethodDescriptor y.desc = some ⟨ps, rt⟩) (hlen : argsL.length = ps.length)
    (w1 : (Jvm.Cond.methodLink own index y).before a0 Z = true) (w2 : (Jvm.Cond.static y).before a0 Z = true) (wz : (Jvm.Cond.initialized y.cls).before a0 Z = true) (wc : (Jvm.Cond.code y bytes' maxL' ret').before a0 Z = true) (hy : y.cls ≠ "java/lang/invoke/MethodHandle" ∧ y.cls ≠ "java/lang/invoke/VarHandle")
    (hd : decode bytes pc = .ok (.invokestatic index, 3)) (hq : pc + 3 = q) (hL : L.size = maxL) (hf : rm.frames + 1 ≤ R.frames) (hl : (rest.map fun v => v.category).sum + (maxL' + 11) + rm.locals ≤ R.locals) (hk : k + rm.cells ≤ R.cells) (hn : n + rm.slots ≤ R.slots)
    (K : ∀ v O' P' T', Q' v O' P' → Wk kn p l e R s m args below meth c bytes maxL ret Z a0 EL own T' O' P' (k + rm.cells) (n + rm.slots) → Go p e below s R Z EL Q T' (mkF m q L (v.toList ++ rest))) : Go p e below s R Z EL Q T (mkF m pc L S) := by
  subst hq; subst hS; subst has
  obtain ⟨⟨hx, hby, hml, -⟩, locs, X, -, hZ, hown, N, -⟩ := id W
  obtain ⟨v, vm₁, B, -, X1, hS1, hle, hP, st⟩ := callSS X hx (own := own) hown (mv (s := s.setVm T.vm) hZ w1) (mv (s := s.setVm T.vm) hZ w2) (mv (s := s.setVm T.vm) hZ wz) (mv (s := s.setVm T.vm) hZ wc) hy (own_back C W wc wz (len := 3) hf hl) (g := mkF m pc L (argsL.reverse ++ rest)) rfl (hL.trans hml.symm) (argsL := argsL) (rest := rest) (lenOf hpd hlen) rfl (by show 2 * 0 + _ ≤ _; omega) (hb hby hd) (fun _ _ => ⟨rfl, rfl, hk, hn⟩)
  obtain ⟨O', P', W', hQ'⟩ := own_after (A := ⟨T, locs, k, n⟩) (vm₁ := vm₁) W N X1 hS1 hle hP
  exact (K v O' P' _ hQ' W').back st
theorem g_special (W : Wk kn p l e R s m args below meth c bytes maxL ret Z a0 EL own T O P k n) (C : Con kn l Z EL y bytes' maxL' none [] rm as' O P Q') {index : Nat} {a : Addr} {argsL rest : List Value} {ps : List FieldType} {rt : Option FieldType} (hy1 : y.name = "<init>") (has : (.ref a :: argsL).toArray = as') (hS : S = argsL.reverse ++ .ref a :: rest) (hpd : parseMethodDescriptor y.desc = some ⟨ps, rt⟩) (hlen : argsL.length = ps.length)
    (w1 : (Jvm.Cond.methodLink own index y).before a0 Z = true) (w2 : (Jvm.Cond.instanceMethod y).before a0 Z = true) (wz : (Jvm.Cond.initialized y.cls).before a0 Z = true) (wc : (Jvm.Cond.code y bytes' maxL' none).before a0 Z = true) (hy : y.cls ≠ "java/lang/invoke/MethodHandle" ∧ y.cls ≠ "java/lang/invoke/VarHandle")
    (hd : decode bytes pc = .ok (.invokespecial index, 3)) (hq : pc + 3 = q) (hL : L.size = maxL) (hf : rm.frames + 1 ≤ R.frames) (hl : (rest.map fun v => v.category).sum + (maxL' + 11) + rm.locals ≤ R.locals) (hk : k + rm.cells ≤ R.cells) (hn : n + rm.slots ≤ R.slots)
    (K : ∀ v O' P' T', Q' v O' P' → Wk kn p l e R s m args below meth c bytes maxL ret Z a0 EL own T' O' P' (k + rm.cells) (n + rm.slots) → Go p e below s R Z EL Q T' (mkF m q L (v.toList ++ rest))) : Go p e below s R Z EL Q T (mkF m pc L S) := by
  subst hq; subst hS; subst has
  obtain ⟨⟨hx, hby, hml, -⟩, locs, X, -, hZ, hown, N, -⟩ := id W
  obtain ⟨v, vm₁, B, -, X1, hS1, hle, hP, st⟩ := X.specialBackS hx hy1 (own := own) hown (mv (s := s.setVm T.vm) hZ w1) (mv (s := s.setVm T.vm) hZ w2) (mv (s := s.setVm T.vm) hZ wc) hy (own_back C W wc wz (len := 3) hf hl) (g := mkF m pc L (argsL.reverse ++ .ref a :: rest)) rfl (hL.trans hml.symm) (Steps.refl _) (a := a) (argsL := argsL) (rest := rest) (lenOf hpd hlen) rfl (by show 2 * 0 + _ ≤ _; omega) (hb hby hd) (fun _ _ => ⟨rfl, rfl, hk, hn⟩)
  obtain ⟨O', P', W', hQ'⟩ := own_after (A := ⟨T, locs, k, n⟩) (vm₁ := vm₁) W N X1 hS1 hle hP
  exact (K v O' P' _ hQ' W').back st
theorem g_virtual (W : Wk kn p l e R s m args below meth c bytes maxL ret Z a0 EL own T O P k n) (C : Con kn l Z EL y bytes' maxL' ret' [] rm as' O P Q') {index : Nat} {a : Addr} {D : String} {argsL rest : List Value} {ps : List FieldType} {rt : Option FieldType} (hK : ∃ c, T.heap[a]? = some c ∧ ExaC Z D c) (has : (.ref a :: argsL).toArray = as') (hS : S = argsL.reverse ++ .ref a :: rest) (hpd : parseMethodDescriptor y.desc = some ⟨ps, rt⟩) (hlen : argsL.length = ps.length)
    (w1 : (Jvm.Cond.methodLink own index y).before a0 Z = true) (w2 : (Jvm.Cond.declares y).before a0 Z = true) (w3 : (Jvm.Cond.selects D y y).before a0 Z = true) (w4 : (Jvm.Cond.instanceMethod y).before a0 Z = true) (wz : (Jvm.Cond.initialized y.cls).before a0 Z = true) (wc : (Jvm.Cond.code y bytes' maxL' ret').before a0 Z = true) (hy : y.cls ≠ "java/lang/invoke/MethodHandle" ∧ y.cls ≠ "java/lang/invoke/VarHandle")
    (hd : decode bytes pc = .ok (.invokevirtual index, 3)) (hq : pc + 3 = q) (hL : L.size = maxL) (hf : rm.frames + 1 ≤ R.frames) (hl : (rest.map fun v => v.category).sum + (maxL' + 11) + rm.locals ≤ R.locals) (hk : k + rm.cells ≤ R.cells) (hn : n + rm.slots ≤ R.slots)
    (K : ∀ v O' P' T', Q' v O' P' → Wk kn p l e R s m args below meth c bytes maxL ret Z a0 EL own T' O' P' (k + rm.cells) (n + rm.slots) → Go p e below s R Z EL Q T' (mkF m q L (v.toList ++ rest))) : Go p e below s R Z EL Q T (mkF m pc L S) := by
  subst hq; subst hS; subst has
  obtain ⟨cl, q1, q2⟩ := hK
  obtain ⟨⟨hx, hby, hml, -⟩, locs, X, -, hZ, hown, N, -⟩ := id W
  obtain ⟨cB, kB, b1, -, b3⟩ := isOf (s := s.setVm T.vm) (T := T) hZ rfl (q2.exa q1)
  obtain ⟨v, vm₁, B, -, X1, hS1, hle, hP, st⟩ := X.virtualBackS hx (y := y) (z := y) (own := own) hown (mvT (s := s.setVm T.vm) hZ w1) (mvT (s := s.setVm T.vm) hZ w2) (notFace_of_selects (args := #[]) (mvT (s := s.setVm T.vm) hZ w3)) (mvT (s := s.setVm T.vm) hZ w3) (mvT (s := s.setVm T.vm) hZ w4) hy (own_back C W wc wz (len := 3) hf hl) b1 b3 (g := mkF m pc L (argsL.reverse ++ .ref a :: rest)) rfl (hL.trans hml.symm) (Steps.refl _) (argsL := argsL) (rest := rest) (lenOf hpd hlen) rfl (by show 2 * 0 + _ ≤ _; omega) (hb hby hd) (fun _ _ => ⟨rfl, rfl, hk, hn⟩)
  obtain ⟨O', P', W', hQ'⟩ := own_after (A := ⟨T, locs, k, n⟩) (vm₁ := vm₁) W N X1 hS1 hle hP
  exact (K v O' P' _ hQ' W').back st
theorem g_iface {yi : MethodName} (W : Wk kn p l e R s m args below meth c bytes maxL ret Z a0 EL own T O P k n) (C : Con kn l Z EL y bytes' maxL' ret' [] rm as' O P Q') {index count : Nat} {a : Addr} {D : String} {argsL rest : List Value} {ps : List FieldType} {rt : Option FieldType} (hK : ∃ c, T.heap[a]? = some c ∧ ExaC Z D c) (has : (.ref a :: argsL).toArray = as') (hS : S = argsL.reverse ++ .ref a :: rest) (hpd : parseMethodDescriptor yi.desc = some ⟨ps, rt⟩) (hlen : argsL.length = ps.length)
    (w1 : (Jvm.Cond.methodLink own index yi).before a0 Z = true) (w2 : (Jvm.Cond.declares yi).before a0 Z = true) (w3 : (Jvm.Cond.interfaceMethod yi.cls yi.cls yi.name yi.desc).before a0 Z = true) (hfa : ((Jvm.Cond.interfaceMethod yi.cls yi.cls yi.name yi.desc).onTables && (Jvm.Cond.interfaceMethod yi.cls yi.cls yi.name yi.desc).keepsFace) = true) (w4 : (Jvm.Cond.selects D yi y).before a0 Z = true) (w5 : (Jvm.Cond.instanceMethod y).before a0 Z = true) (w6 : (Jvm.Cond.publicMethod y).before a0 Z = true) (w7 : (Jvm.Cond.unhidden D yi.name yi.desc).before a0 Z = true) (w8 : (Jvm.Cond.castable D yi.cls).before a0 Z = true) (wz : (Jvm.Cond.initialized y.cls).before a0 Z = true) (wc : (Jvm.Cond.code y bytes' maxL' ret').before a0 Z = true) (hy : yi.cls ≠ "java/lang/invoke/MethodHandle" ∧ yi.cls ≠ "java/lang/invoke/VarHandle")
    (hd : decode bytes pc = .ok (.invokeinterface index count, 5)) (hq : pc + 5 = q) (hL : L.size = maxL) (hf : rm.frames + 1 ≤ R.frames) (hl : (rest.map fun v => v.category).sum + (maxL' + 11) + rm.locals ≤ R.locals) (hk : k + rm.cells ≤ R.cells) (hn : n + rm.slots ≤ R.slots)
    (K : ∀ v O' P' T', Q' v O' P' → Wk kn p l e R s m args below meth c bytes maxL ret Z a0 EL own T' O' P' (k + rm.cells) (n + rm.slots) → Go p e below s R Z EL Q T' (mkF m q L (v.toList ++ rest))) : Go p e below s R Z EL Q T (mkF m pc L S) := by
  subst hq; subst hS; subst has
  obtain ⟨cl, q1, q2⟩ := hK
  obtain ⟨⟨hx, hby, hml, -⟩, locs, X, -, hZ, hown, N, -⟩ := id W
  obtain ⟨cB, kB, b1, b2, b3⟩ := isOf (s := s.setVm T.vm) (T := T) hZ rfl (q2.exa q1)
  obtain ⟨v, vm₁, B, -, X1, hS1, hle, hP, st⟩ := X.interfaceBackS hx (xi := yi) (y := y) (own := own) hown (mvT (s := s.setVm T.vm) hZ w1) (mvT (s := s.setVm T.vm) hZ w2) (mvT (s := s.setVm T.vm) hZ w3 hfa) (mvT (s := s.setVm T.vm) hZ w4) (mvT (s := s.setVm T.vm) hZ w5) (mvT (s := s.setVm T.vm) hZ w6) (mvT (s := s.setVm T.vm) hZ w7) (mvT (s := s.setVm T.vm) hZ w8) hy (own_back C W wc wz (len := 5) hf hl) b1 b2 b3 (g := mkF m pc L (argsL.reverse ++ .ref a :: rest)) rfl (hL.trans hml.symm) (Steps.refl _) (argsL := argsL) (rest := rest) (lenOf hpd hlen) rfl (by show 2 * 0 + _ ≤ _; omega) (hb hby hd) (fun _ _ => ⟨rfl, rfl, hk, hn⟩)
  obtain ⟨O', P', W', hQ'⟩ := own_after (A := ⟨T, locs, k, n⟩) (vm₁ := vm₁) W N X1 hS1 hle hP
  exact (K v O' P' _ hQ' W').back st
end OwnCon
theorem own_w {Z : State} {a0 : Array Value} (hw : ∀ d ∈ tables_1, d.before a0 Z = true) (i : Nat) {d : Jvm.Cond} (h : tables_1[i]? = some d) : d.before a0 Z = true := hw _ (List.mem_of_getElem? h)
theorem own_s {L : List Jvm.Cond} {Z : State} {a0 : Array Value} (hw : ∀ d ∈ L, d.before a0 Z = true) (i : Nat) {d : Jvm.Cond} (h : L[i]? = some d) : d.before a0 Z = true := hw _ (List.mem_of_getElem? h)
theorem own_i32 {i : Nat} (h : i < 2 ^ 31) : i.toInt32.toInt = i := len_toInt h
theorem own_nn {i : Nat} (h : i < 2 ^ 31) : ¬ i.toInt32 < 0 := fun z => by rw [Int32.lt_iff_toInt_lt, own_i32 h] at z; exact absurd z (by simp)
theorem own_clamp {i : Nat} (h : i < 2 ^ 31) : i.toInt32.toNatClampNeg = i := by simp only [Int32.toNatClampNeg, own_i32 h]; rfl
theorem own_lt {i j : Nat} (hi : i < 2 ^ 31) (hj : j < 2 ^ 31) : i.toInt32 < j.toInt32 ↔ i < j := by rw [Int32.lt_iff_toInt_lt, own_i32 hi, own_i32 hj]; omega
theorem own_eq {i j : Nat} (hi : i < 2 ^ 31) (hj : j < 2 ^ 31) : i.toInt32 = j.toInt32 ↔ i = j := by rw [← Int32.toInt_inj, own_i32 hi, own_i32 hj]; omega
theorem own_succ {i : Nat} (h : i + 1 < 2 ^ 31) : i.toInt32 + Int32.ofInt 1 = (i + 1).toInt32 := by
  rw [← Int32.toInt_inj, own_i32 h, Int32.toInt_add, own_i32 (by omega)]
  show ((i : Int) + 1).bmod (2 ^ 32) = _
  rw [Int.bmod_eq_of_le (by omega) (by omega)]; omega
theorem own_chr {x : Int32} (h : 0 ≤ x.toInt ∧ x.toInt < 65536) : x.toUInt32.toUInt16.toUInt32.toInt32 = x := by
  have := c_i2c x
  rw [← Int32.toInt_inj]; omega
/-- the bytes that spell the chars, Latin-1 -/
def enc (cs : List Int32) : List Value := cs.map fun c => .int c.toInt8.toInt32
theorem enc_len (cs : List Int32) : (enc cs).length = cs.length := by simp [enc]
theorem own_fill {cs : List Int32} {i : Nat} {c : Int32} (h : cs[i]? = some c) : (enc (cs.take i) ++ List.replicate (cs.length - i) (Value.int 0)).set i (.int c.toInt8.toInt32) = enc (cs.take (i + 1)) ++ List.replicate (cs.length - (i + 1)) (Value.int 0) := by
  have hi : i < cs.length := (List.getElem?_eq_some_iff.mp h).1
  have e1 : cs.length - i = (cs.length - (i + 1)) + 1 := by omega
  have e2 : (enc (cs.take i)).length = i := by rw [enc_len, List.length_take]; omega
  have e3 : cs.take (i + 1) = cs.take i ++ [c] := by rw [List.take_add_one, h]; rfl
  rw [List.set_append_right _ _ (by omega), e2, Nat.sub_self, e1, List.replicate_succ, List.set_cons_zero, e3]
  simp [enc]
theorem enc_fits {cs : List Int32} : ∀ v ∈ enc cs, fits .byte v = true := fun v hv => by
  obtain ⟨x, -, rfl⟩ := List.mem_map.mp hv; exact fits_nar_byte x
section OwnCopy
variable {kn : Prop} {p : Program} {l : Launch} {e : Env} {R : Room} {s : State} {m : MethodId} {args : Array Value} {below : List Frame} {meth : Method} {c : Code} {bytes : ByteArray} {maxL : Nat} {ret : Option FieldType} {Z : State} {a0 : Array Value} {EL : List (String × Nat)} {own : String} {T T' : State} {O O' P P' : List Ent} {k n k' n' : Nat} {Q : Option Value → List Ent → List Ent → Prop} {g g' : JFrame} {pc q : Nat} {L : Array Slot} {S : List Value}
theorem g_ldcJ (W : Wk kn p l e R s m args below meth c bytes maxL ret Z a0 EL own T O P k n) {index : Nat} {v : Int64} (w : (Jvm.Cond.constantLong own index v).before a0 Z = true) (hd : decode bytes pc = .ok (.ldc2_w index, 3)) (hq : pc + 3 = q) (K : Go p e below s R Z EL Q T (mkF m q L (.long v :: S))) : Go p e below s R Z EL Q T (mkF m pc L S) := by
  subst hq
  obtain ⟨⟨hx, hby, -⟩, locs, X, -, hZ, hown, -⟩ := W
  exact K.step fun t hr => Stand.ldc2J X hx (own := own) hown (mv (s := s.setVm T.vm) hZ w) rfl (hb hby hd) hr
theorem ArrC.arv {h : Heap} {a : Addr} {cl : Cell} {ty : FieldType} {vs : List Value} {dv : Value} (q : h[a]? = some cl) (F : ArrC Z ty vs cl) : Arv Z h a cl.cls ty vs.length.toInt32 vs dv := by
  have hl := F.2.2.2.2
  have hs := F.size
  refine ⟨cl, F.arr q, rfl, by rw [own_clamp hl, hs], own_nn hl, fun j hj => ?_, fun j hj => ?_⟩
  · rw [List.getD_eq_getElem?_getD, List.getElem?_eq_getElem (by omega)]
    exact F.at (List.getElem?_eq_getElem (by omega))
  · rw [List.getD_eq_getElem?_getD, List.getElem?_eq_getElem (by omega)]
    exact F.2.2.2.1 _ (List.getElem_mem _)
theorem own_arrC {h : Heap} {a : Addr} {k : ClassId} {ty : FieldType} {vs : List Value} {dv : Value} (F : Arv Z h a k ty vs.length.toInt32 vs dv) (hl : vs.length < 2 ^ 31) : ∃ cl, h[a]? = some cl ∧ ArrC Z ty vs cl := by
  obtain ⟨cl, A, -, hs, -, H, G⟩ := F
  rw [own_clamp hl] at hs
  refine ⟨cl, A.1, A.2.1, A.2.2, List.ext_getElem? fun i => ?_, fun v hv => ?_, hl⟩
  · rcases Nat.lt_or_ge i vs.length with z | z
    · have e1 := H i (by omega)
      rw [Array.getElem?_toList, e1, List.getD_eq_getElem?_getD, List.getElem?_eq_getElem z]; rfl
    · rw [List.getElem?_eq_none z, List.getElem?_eq_none (by simpa [hs] using z)]
  · obtain ⟨i, hi, rfl⟩ := List.mem_iff_getElem.mp hv
    have := G i (by omega)
    rwa [List.getD_eq_getElem?_getD, List.getElem?_eq_getElem hi] at this
theorem own_slice {vs : List Value} {dv : Value} {sp nn : Nat} (h : sp + nn ≤ vs.length) : (List.range nn).map (fun i => vs.getD (sp + i) dv) = (vs.drop sp).take nn := by
  refine List.ext_getElem? fun i => ?_
  rw [List.getElem?_map]
  rcases Nat.lt_or_ge i nn with z | z
  · rw [List.getElem?_range z, List.getElem?_take_of_lt z, List.getElem?_drop, List.getElem?_eq_getElem (by omega)]
    simp only [Option.map_some, List.getD_eq_getElem?_getD, List.getElem?_eq_getElem (show sp + i < vs.length by omega)]; rfl
  · rw [List.getElem?_eq_none (by simpa using z), List.getElem?_eq_none (by simp; omega)]; rfl
/-- System.arraycopy between two arrays of one primitive kind, the goal owned -/
theorem g_copy (W : Wk kn p l e R s m args below meth c bytes maxL ret Z a0 EL own T O P k n) {index i sp dp nn : Nat} {a b : Addr} {ty : FieldType} {vs vd vd' : List Value} {zs zd zn : Int32} (hK : ∃ c, T.heap[a]? = some c ∧ ArrC Z ty vs c) (hi : O[i]? = some (b, ArrC Z ty vd)) (hty : refKind ty = false) (e1 : sp.toInt32 = zs) (e2 : dp.toInt32 = zd) (e3 : nn.toInt32 = zn) (h1 : sp + nn ≤ vs.length) (h2 : dp + nn ≤ vd.length)
    (w1 : (Jvm.Cond.methodLink own index Jvm.Stand.acN).before a0 Z = true) (w2 : (Jvm.Cond.native Jvm.Stand.acN).before a0 Z = true) (w3 : (Jvm.Cond.static Jvm.Stand.acN).before a0 Z = true) (w4 : (Jvm.Cond.initialized "java/lang/System").before a0 Z = true)
    (hd : decode bytes pc = .ok (.invokestatic index, 3)) (hq : pc + 3 = q) (hL : L.size = maxL) (hf : 1 ≤ R.frames) (hl : (S.map fun v => v.category).sum + (nativeFrameWords "java/lang/System" "arraycopy" 5 + 11) ≤ R.locals) (hvd : vd.take dp ++ (vs.drop sp).take nn ++ vd.drop (dp + nn) = vd') (hO : O.set i (b, ArrC Z ty vd') = O')
    (K : ∀ T', Wk kn p l e R s m args below meth c bytes maxL ret Z a0 EL own T' O' P k n → Go p e below s R Z EL Q T' (mkF m q L S)) : Go p e below s R Z EL Q T (mkF m pc L (.int zn :: .int zd :: .ref b :: .int zs :: .ref a :: S)) := by
  subst hq; subst hO; subst e1; subst e2; subst e3
  obtain ⟨cl, q1, q2⟩ := hK
  obtain ⟨cb, r1, r2⟩ := W.ow hi
  have l1 := q2.2.2.2.2
  have l2 := r2.2.2.2.2
  obtain ⟨⟨hx, hby, hml, -⟩, locs, X, -, hZ, hown, N, -⟩ := id W
  have hlen : vd'.length = vd.length := by rw [← hvd]; simp; omega
  obtain ⟨T1, h1', L1, X1, eh, N1, K1, A1, st⟩ := cpA X hx (s := s.setVm T.vm) hZ hown w1 w2 w3 w4 rfl (q2.arv (dv := .null) q1) (r2.arv (dv := .null) r1) (Or.inl ⟨rfl, hty⟩) (own_nn (i := sp) (by omega)) (own_nn (i := dp) (by omega)) (own_nn (i := nn) (by omega)) (by rw [own_clamp (by omega), own_clamp (by omega), own_clamp l1]; exact h1) (by rw [own_clamp (by omega), own_clamp (by omega), own_clamp l2]; exact h2) rfl (by rw [own_clamp (by omega), own_clamp (by omega)]; exact h2) N (W.fr hi) (g := mkF m pc L (.int nn.toInt32 :: .int dp.toInt32 :: .ref b :: .int sp.toInt32 :: .ref a :: S)) rfl (hL.trans hml.symm) rfl (hb hby hd) hf (W := (S.map fun v => v.category).sum) (by show 2 * 0 + _ ≤ _; omega) hl
  subst eh
  have e5 : vd.take dp.toInt32.toNatClampNeg ++ (List.range nn.toInt32.toNatClampNeg).map (fun i => vs.getD (sp.toInt32.toNatClampNeg + i) .null) ++ vd.drop (dp.toInt32.toNatClampNeg + nn.toInt32.toNatClampNeg) = vd' := by
    rw [own_clamp (by omega), own_clamp (by omega), own_clamp (by omega), own_slice h1, hvd]
  rw [e5, ← hlen] at A1
  exact (K T1 (W.wrote X1 hi K1 N1 (own_arrC A1 (by omega)))).step st
end OwnCopy
section OwnSuper
variable {kn : Prop} {p : Program} {l : Launch} {e : Env} {R : Room} {s : State} {m : MethodId} {args : Array Value} {below : List Frame} {meth : Method} {c : Code} {bytes bytes' : ByteArray} {maxL maxL' : Nat} {ret ret' : Option FieldType} {Z : State} {a0 : Array Value} {EL : List (String × Nat)} {own : String} {T T' : State} {O O' P P' : List Ent} {k n k' n' : Nat} {Q Q' : Option Value → List Ent → List Ent → Prop} {g g' : JFrame} {pc q : Nat} {L : Array Slot} {S : List Value} {rm : Room} {ws : List Jvm.Cond} {as' : Array Value} {x y z : MethodName}
theorem own_selP {D : String} {s : State} {args : Array Value} (hy : y.cls ≠ "java/lang/invoke/MethodHandle" ∧ y.cls ≠ "java/lang/invoke/VarHandle") (hsel : (Jvm.Cond.selects D y y).before args s = true) (hpriv : (Jvm.Cond.privateMethod y).before args s = true) (hinst : (Jvm.Cond.instanceMethod y).before args s = true) : (Jvm.Cond.selects y.cls y y).before args s = true := by
  obtain ⟨mk, methM, hnamed, hmethM, -, -⟩ := Cond.instanceMethod_spec hinst
  obtain ⟨c2, r2, m2, -, -, q3, -, kP, hkP, hkPi⟩ := Cond.selects_spec hsel
  cases hnamed.symm.trans q3
  have hc := findClass_of_methodNamed hnamed
  have hfound : s.methodFound? y.cls y.name y.desc = some mk := State.methodFound?_of_named hnamed hy
  have hs2 : selectMethod {} s.vm mk.cls mk = .method mk := selectMethod_private hmethM (Cond.privateMethod_at hpriv mk methM hnamed hmethM)
  simp only [Cond.before, Cond.holds, Cond.value, hc, hfound, hnamed, hs2, hkP]
  simp; exact hkPi
theorem own_same {D : String} {s : State} {args : Array Value} {y' : MethodName} (hy : y.cls ≠ "java/lang/invoke/MethodHandle" ∧ y.cls ≠ "java/lang/invoke/VarHandle") (hc' : y'.cls = y.cls) (hsel : (Jvm.Cond.selects D y' y').before args s = true) (hinst : (Jvm.Cond.instanceMethod y).before args s = true) : (Jvm.Cond.sameMethod y.cls y.cls y.name y.desc).before args s = true := by
  obtain ⟨mk, methM, hnamed, hmethM, -, -⟩ := Cond.instanceMethod_spec hinst
  obtain ⟨c2, r2, m2, -, -, q3, -, kP, hkP, hkPi⟩ := Cond.selects_spec hsel
  have hc := findClass_of_methodNamed hnamed
  have hc2 := findClass_of_methodNamed q3
  rw [hc', hc] at hc2
  have hfound : s.methodFound? y.cls y.name y.desc = some mk := State.methodFound?_of_named hnamed hy
  have e : mk.cls = m2.cls := Option.some.inj hc2
  have hnamed' : s.methodNamed? ⟨y.cls, y.name, y.desc⟩ = some mk := hnamed
  simp only [Cond.before, Cond.holds, Cond.value, hc, hfound, hnamed', e, hkP]
  simp [hkPi]
/-- a private method of a superclass of the receiver's class D -/
theorem g_privUp (W : Wk kn p l e R s m args below meth c bytes maxL ret Z a0 EL own T O P k n) (C : Con kn l Z EL y bytes' maxL' ret' [] rm as' O P Q') {index : Nat} {a : Addr} {D : String} {argsL rest : List Value} {ps : List FieldType} {rt : Option FieldType} (hK : ∃ c, T.heap[a]? = some c ∧ ExaC Z D c) (has : (.ref a :: argsL).toArray = as') (hS : S = argsL.reverse ++ .ref a :: rest) (hpd : parseMethodDescriptor y.desc = some ⟨ps, rt⟩) (hlen : argsL.length = ps.length)
    (w1 : (Jvm.Cond.methodLink own index y).before a0 Z = true) (w4 : (Jvm.Cond.instanceMethod y).before a0 Z = true) (wp : (Jvm.Cond.privateMethod y).before a0 Z = true) (w3 : (Jvm.Cond.selects D y y).before a0 Z = true) (wz : (Jvm.Cond.initialized y.cls).before a0 Z = true) (wc : (Jvm.Cond.code y bytes' maxL' ret').before a0 Z = true) (hy : y.cls ≠ "java/lang/invoke/MethodHandle" ∧ y.cls ≠ "java/lang/invoke/VarHandle")
    (hd : decode bytes pc = .ok (.invokevirtual index, 3)) (hq : pc + 3 = q) (hL : L.size = maxL) (hf : rm.frames + 1 ≤ R.frames) (hl : (rest.map fun v => v.category).sum + (maxL' + 11) + rm.locals ≤ R.locals) (hk : k + rm.cells ≤ R.cells) (hn : n + rm.slots ≤ R.slots)
    (K : ∀ v O' P' T', Q' v O' P' → Wk kn p l e R s m args below meth c bytes maxL ret Z a0 EL own T' O' P' (k + rm.cells) (n + rm.slots) → Go p e below s R Z EL Q T' (mkF m q L (v.toList ++ rest))) : Go p e below s R Z EL Q T (mkF m pc L S) := by
  subst hq; subst hS; subst has
  obtain ⟨cl, q1, q2⟩ := hK
  obtain ⟨⟨hx, hby, hml, -⟩, locs, X, -, hZ, hown, N, -⟩ := id W
  have hp : (Jvm.Cond.privateMethod y).before args (s.setVm T.vm) = true := mvP (s := s.setVm T.vm) hZ wp
  have h4 : (Jvm.Cond.instanceMethod y).before args (s.setVm T.vm) = true := mvT (s := s.setVm T.vm) hZ w4
  have h3 : (Jvm.Cond.selects D y y).before args (s.setVm T.vm) = true := mvT (s := s.setVm T.vm) hZ w3
  obtain ⟨v, vm₁, B, -, X1, hS1, hle, hP, st⟩ := X.privateBackS hx (y := y) (own := own) hown (mvT (s := s.setVm T.vm) hZ w1) h4 (own_selP hy h3 hp h4) (Cond.privateMethod_at hp) (mvT (s := s.setVm T.vm) hZ wc) hy (own_back C W wc wz (len := 3) hf hl) (g := mkF m pc L (argsL.reverse ++ .ref a :: rest)) rfl (hL.trans hml.symm) (Steps.refl _) (a := a) q1 (fun z e => by have := q2.choose_spec.2.2.1; rw [e] at this; cases this) (argsL := argsL) (rest := rest) (lenOf hpd hlen) rfl (by show 2 * 0 + _ ≤ _; omega) (hb hby hd) (fun _ _ => ⟨rfl, rfl, hk, hn⟩)
  obtain ⟨O', P', W', hQ'⟩ := own_after (A := ⟨T, locs, k, n⟩) (vm₁ := vm₁) W N X1 hS1 hle hP
  exact (K v O' P' _ hQ' W').back st
/-- super.y(..) -/
theorem g_super (W : Wk kn p l e R s m args below meth c bytes maxL ret Z a0 EL own T O P k n) (C : Con kn l Z EL y bytes' maxL' ret' [] rm as' O P Q') {index : Nat} {a : Addr} {D : String} {y' : MethodName} {argsL rest : List Value} {ps : List FieldType} {rt : Option FieldType} (hK : ∃ c, T.heap[a]? = some c ∧ ExaC Z D c) (has : (.ref a :: argsL).toArray = as') (hS : S = argsL.reverse ++ .ref a :: rest) (hpd : parseMethodDescriptor y.desc = some ⟨ps, rt⟩) (hlen : argsL.length = ps.length) (hn1 : y.name ≠ "<init>")
    (w1 : (Jvm.Cond.methodLink own index y).before a0 Z = true) (w4 : (Jvm.Cond.instanceMethod y).before a0 Z = true) (hc' : y'.cls = y.cls) (w3 : (Jvm.Cond.selects D y' y').before a0 Z = true) (wsup : (Jvm.Cond.superclass own y.cls).before a0 Z = true) (wcast : (Jvm.Cond.castable D y.cls).before a0 Z = true) (wz : (Jvm.Cond.initialized y.cls).before a0 Z = true) (wc : (Jvm.Cond.code y bytes' maxL' ret').before a0 Z = true) (hy : y.cls ≠ "java/lang/invoke/MethodHandle" ∧ y.cls ≠ "java/lang/invoke/VarHandle")
    (hd : decode bytes pc = .ok (.invokespecial index, 3)) (hq : pc + 3 = q) (hL : L.size = maxL) (hf : rm.frames + 1 ≤ R.frames) (hl : (rest.map fun v => v.category).sum + (maxL' + 11) + rm.locals ≤ R.locals) (hk : k + rm.cells ≤ R.cells) (hn : n + rm.slots ≤ R.slots)
    (K : ∀ v O' P' T', Q' v O' P' → Wk kn p l e R s m args below meth c bytes maxL ret Z a0 EL own T' O' P' (k + rm.cells) (n + rm.slots) → Go p e below s R Z EL Q T' (mkF m q L (v.toList ++ rest))) : Go p e below s R Z EL Q T (mkF m pc L S) := by
  subst hq; subst hS; subst has
  obtain ⟨cl, q1, q2⟩ := hK
  obtain ⟨⟨hx, hby, hml, -⟩, locs, X, -, hZ, hown, N, -⟩ := id W
  obtain ⟨v, vm₁, B, -, X1, hS1, hle, hP, st⟩ := superBackS X hx (s := s.setVm T.vm) hZ (own := own) hown w1 (own_same (args := a0) hy hc' w3 w4) w4 wsup hn1 (own_back C W wc wz (len := 3) hf hl) rfl (Ins.of_exa (q2.exa q1) wcast) (g := mkF m pc L (argsL.reverse ++ .ref a :: rest)) rfl (hL.trans hml.symm) wc (argsL := argsL) (rest := rest) (lenOf hpd hlen) rfl (by show 2 * 0 + _ ≤ _; omega) (hb hby hd) (fun _ _ => ⟨rfl, rfl, hk, hn⟩)
  obtain ⟨O', P', W', hQ'⟩ := own_after (A := ⟨T, locs, k, n⟩) (vm₁ := vm₁) W N X1 hS1 hle hP
  exact (K v O' P' _ hQ' W').back st
/-- y is named, z runs -/
theorem g_virtual2 (W : Wk kn p l e R s m args below meth c bytes maxL ret Z a0 EL own T O P k n) (C : Con kn l Z EL z bytes' maxL' ret' [] rm as' O P Q') {index : Nat} {a : Addr} {D D' : String} {y' : MethodName} {argsL rest : List Value} {ps : List FieldType} {rt : Option FieldType} (hK : ∃ c, T.heap[a]? = some c ∧ ExaC Z D c) (has : (.ref a :: argsL).toArray = as') (hS : S = argsL.reverse ++ .ref a :: rest) (hpd : parseMethodDescriptor y.desc = some ⟨ps, rt⟩) (hlen : argsL.length = ps.length)
    (w1 : (Jvm.Cond.methodLink own index y).before a0 Z = true) (w2 : (Jvm.Cond.declares y).before a0 Z = true) (w3 : (Jvm.Cond.selects D y z).before a0 Z = true) (w4 : (Jvm.Cond.instanceMethod z).before a0 Z = true) (wy : (Jvm.Cond.instanceMethod y).before a0 Z = true) (hc' : y'.cls = y.cls) (w5 : (Jvm.Cond.selects D' y' y').before a0 Z = true) (wz : (Jvm.Cond.initialized z.cls).before a0 Z = true) (wc : (Jvm.Cond.code z bytes' maxL' ret').before a0 Z = true) (hy : y.cls ≠ "java/lang/invoke/MethodHandle" ∧ y.cls ≠ "java/lang/invoke/VarHandle")
    (hd : decode bytes pc = .ok (.invokevirtual index, 3)) (hq : pc + 3 = q) (hL : L.size = maxL) (hf : rm.frames + 1 ≤ R.frames) (hl : (rest.map fun v => v.category).sum + (maxL' + 11) + rm.locals ≤ R.locals) (hk : k + rm.cells ≤ R.cells) (hn : n + rm.slots ≤ R.slots)
    (K : ∀ v O' P' T', Q' v O' P' → Wk kn p l e R s m args below meth c bytes maxL ret Z a0 EL own T' O' P' (k + rm.cells) (n + rm.slots) → Go p e below s R Z EL Q T' (mkF m q L (v.toList ++ rest))) : Go p e below s R Z EL Q T (mkF m pc L S) := by
  subst hq; subst hS; subst has
  obtain ⟨cl, q1, q2⟩ := hK
  obtain ⟨⟨hx, hby, hml, -⟩, locs, X, -, hZ, hown, N, -⟩ := id W
  obtain ⟨cB, kB, b1, -, b3⟩ := isOf (s := s.setVm T.vm) (T := T) hZ rfl (q2.exa q1)
  have hsame : (Jvm.Cond.sameMethod y.cls y.cls y.name y.desc).before args (s.setVm T.vm) = true := mvT (s := s.setVm T.vm) hZ (own_same (args := a0) hy hc' w5 wy)
  obtain ⟨v, vm₁, B, -, X1, hS1, hle, hP, st⟩ := X.virtualBackUpS hx (x := y) (y := z) (owner := y.cls) (own := own) hown (mvT (s := s.setVm T.vm) hZ w1) hsame (mvT (s := s.setVm T.vm) hZ w2) hy (mvT (s := s.setVm T.vm) hZ w3) (mvT (s := s.setVm T.vm) hZ w4) (own_back C W wc wz (len := 3) hf hl) b1 b3 (g := mkF m pc L (argsL.reverse ++ .ref a :: rest)) rfl (hL.trans hml.symm) (Steps.refl _) (argsL := argsL) (rest := rest) (lenOf hpd hlen) rfl (by show 2 * 0 + _ ≤ _; omega) (hb hby hd) (fun _ _ => ⟨rfl, rfl, hk, hn⟩)
  obtain ⟨O', P', W', hQ'⟩ := own_after (A := ⟨T, locs, k, n⟩) (vm₁ := vm₁) W N X1 hS1 hle hP
  exact (K v O' P' _ hQ' W').back st
/-- x is named, of a class that doesn't declare it; y (declared by its superclass) runs -/
theorem g_virtualUp (W : Wk kn p l e R s m args below meth c bytes maxL ret Z a0 EL own T O P k n) (C : Con kn l Z EL y bytes' maxL' ret' [] rm as' O P Q') {index : Nat} {a : Addr} {D owner : String} {argsL rest : List Value} {ps : List FieldType} {rt : Option FieldType} (hK : ∃ c, T.heap[a]? = some c ∧ ExaC Z D c) (has : (.ref a :: argsL).toArray = as') (hS : S = argsL.reverse ++ .ref a :: rest) (hpd : parseMethodDescriptor x.desc = some ⟨ps, rt⟩) (hlen : argsL.length = ps.length)
    (w1 : (Jvm.Cond.methodLink own index x).before a0 Z = true) (w2 : (Jvm.Cond.sameMethod x.cls owner x.name x.desc).before a0 Z = true) (w5 : (Jvm.Cond.declares ⟨owner, x.name, x.desc⟩).before a0 Z = true) (w3 : (Jvm.Cond.selects D x y).before a0 Z = true) (w4 : (Jvm.Cond.instanceMethod y).before a0 Z = true) (wz : (Jvm.Cond.initialized y.cls).before a0 Z = true) (wc : (Jvm.Cond.code y bytes' maxL' ret').before a0 Z = true) (hy : owner ≠ "java/lang/invoke/MethodHandle" ∧ owner ≠ "java/lang/invoke/VarHandle")
    (hd : decode bytes pc = .ok (.invokevirtual index, 3)) (hq : pc + 3 = q) (hL : L.size = maxL) (hf : rm.frames + 1 ≤ R.frames) (hl : (rest.map fun v => v.category).sum + (maxL' + 11) + rm.locals ≤ R.locals) (hk : k + rm.cells ≤ R.cells) (hn : n + rm.slots ≤ R.slots)
    (K : ∀ v O' P' T', Q' v O' P' → Wk kn p l e R s m args below meth c bytes maxL ret Z a0 EL own T' O' P' (k + rm.cells) (n + rm.slots) → Go p e below s R Z EL Q T' (mkF m q L (v.toList ++ rest))) : Go p e below s R Z EL Q T (mkF m pc L S) := by
  subst hq; subst hS; subst has
  obtain ⟨cl, q1, q2⟩ := hK
  obtain ⟨⟨hx, hby, hml, -⟩, locs, X, -, hZ, hown, N, -⟩ := id W
  obtain ⟨cB, kB, b1, -, b3⟩ := isOf (s := s.setVm T.vm) (T := T) hZ rfl (q2.exa q1)
  obtain ⟨v, vm₁, B, -, X1, hS1, hle, hP, st⟩ := X.virtualBackUpS hx (x := x) (y := y) (owner := owner) (own := own) hown (mvT (s := s.setVm T.vm) hZ w1) (mvT (s := s.setVm T.vm) hZ w2) (mvT (s := s.setVm T.vm) hZ w5) hy (mvT (s := s.setVm T.vm) hZ w3) (mvT (s := s.setVm T.vm) hZ w4) (own_back C W wc wz (len := 3) hf hl) b1 b3 (g := mkF m pc L (argsL.reverse ++ .ref a :: rest)) rfl (hL.trans hml.symm) (Steps.refl _) (argsL := argsL) (rest := rest) (lenOf hpd hlen) rfl (by show 2 * 0 + _ ≤ _; omega) (hb hby hd) (fun _ _ => ⟨rfl, rfl, hk, hn⟩)
  obtain ⟨O', P', W', hQ'⟩ := own_after (A := ⟨T, locs, k, n⟩) (vm₁ := vm₁) W N X1 hS1 hle hP
  exact (K v O' P' _ hQ' W').back st
/-- an object as new: of no kind of the machine's own, its monitor free -/
def UObj (Z : State) (C : String) (sh : Shape) (vs : List Value) (c : Cell) : Prop := ObjC Z C sh vs c ∧ c.vm = .none ∧ c.monitor = {}
theorem g_newU (W : Wk kn p l e R s m args below meth c bytes maxL ret Z a0 EL own T O P k n) {index ns : Nat} {C : String} {sh : Shape} {ds : List Value} (hsh : ShOk Z a0 C sh) (hds : sh.map (fun f => (parseFieldDescriptor f.2.2).map defaultValue) = ds.map some) (w : (Jvm.Cond.classLink own index C).before a0 Z = true) (wi : (Jvm.Cond.instantiable C ns).before a0 Z = true) (wz : (Jvm.Cond.initialized C).before a0 Z = true)
    (hd : decode bytes pc = .ok (.new index, 3)) (hq : pc + 3 = q) (hk : k + 1 ≤ R.cells) (hn : n + ns ≤ R.slots) (K : ∀ a T', Wk kn p l e R s m args below meth c bytes maxL ret Z a0 EL own T' ((a, UObj Z C sh ds) :: O) P (k + 1) (n + ns) → Go p e below s R Z EL Q T' (mkF m q L (.ref a :: S))) : Go p e below s R Z EL Q T (mkF m pc L S) := by
  subst hq
  obtain ⟨⟨hx, hby, -⟩, locs, X, -, hZ, hown, N, -⟩ := id W
  obtain ⟨T1, h1, X1, e1, E1, A1, D1, ⟨cl2, u1, u2, u3⟩, st⟩ := newO X hx (s := s.setVm T.vm) hZ hown w wi wz rfl (g := mkF m pc L S) rfl (hb hby hd) hk hn
  subst e1
  refine (K _ T1 (W.made X1 E1 N ?_)).step st
  obtain ⟨cl, q1, q2⟩ := exaC A1
  obtain rfl : cl2 = cl := Option.some.inj (u1.symm.trans q1)
  refine ⟨_, q1, ⟨q2, fun i f v hi hv => fldC q1 ?_⟩, u2, u3⟩
  obtain ⟨L1, t, ht⟩ := hsh i f hi
  have e1 := congrArg (fun z => z[i]?) hds
  simp only [List.getElem?_map, hi, hv, Option.map_some, ht, Option.some.injEq] at e1
  rw [← e1]
  exact D1 L1 ht
/-- the constructor chain of Throwable with a message -/
theorem g_exc (W : Wk kn p l e R s m args below meth c bytes maxL ret Z a0 EL own T O P k n) (hkn : kn) (hl : l.stackTraces = true) {i ic ns : Nat} {a : Addr} {rc : String} {sh : Shape} {vs : List Value} {links : List Jvm.Free.Exc.Link} {msg : Value} (hi : O[i]? = some (a, UObj Z rc (("java/lang/Throwable", "backtrace", "Ljava/lang/Object;") :: ("java/lang/Throwable", "detailMessage", "Ljava/lang/String;") :: sh) (.null :: .null :: vs)))
    (hok : Jvm.Free.Exc.linksOk 1 links = true) (w1 : (Jvm.Cond.methodLink own ic (Jvm.Free.Exc.ctor 1 (Jvm.Free.Exc.headName links))).before a0 Z = true) (w2 : (Jvm.Cond.instanceMethod (Jvm.Free.Exc.ctor 1 (Jvm.Free.Exc.headName links))).before a0 Z = true) (wT : (Jvm.Free.Exc.chainTab 1 rc links).before a0 Z = true) (wi : (Jvm.Cond.instantiable rc ns).before a0 Z = true) (r : ∀ d ∈ twoRefs, d.before a0 Z = true)
    (hsh : ShOk Z a0 rc sh) (hnm : ∀ f ∈ sh, ∀ nd ∈ Jvm.Free.Exc.sixNames, nd.1 ≠ f.2.1) (hmsg : msg.isRef = true) (hd : decode bytes pc = .ok (.invokespecial ic, 3)) (hq : pc + 3 = q) (hL : L.size = maxL) (hf : 4 + links.length ≤ R.frames) (hlo : (S.map fun v => v.category).sum + (56 + 14 * links.length) ≤ R.locals) (hk : k + 1 ≤ R.cells) (hn : n + 2752 ≤ R.slots)
    (hO : O.set i (a, ObjC Z rc (("java/lang/Throwable", "detailMessage", "Ljava/lang/String;") :: sh) (msg :: vs)) = O')
    (K : ∀ T', Wk kn p l e R s m args below meth c bytes maxL ret Z a0 EL own T' O' P (k + 1) (n + 2752) → Go p e below s R Z EL Q T' (mkF m q L S)) : Go p e below s R Z EL Q T (mkF m pc L (msg :: .ref a :: S)) := by
  subst hq; subst hO
  obtain ⟨cl, q1, ⟨q2, q3⟩, q4, q5⟩ := W.ow hi
  obtain ⟨⟨hx, hby, hml, -, -, -, hk0⟩, locs, X, hS, hZ, hown, N, -⟩ := id W
  obtain ⟨⟨k1, k2⟩, E0⟩ := hk0 hkn
  have hTh : ThS Z T.heap := ThS.start.ext W.old
  have hT0 : ThS Z (s.setVm T.vm).heap := ThS.start.ext E0
  have f0 := (q3 0 _ _ rfl rfl).fld q1
  have f1 := (q3 1 _ _ rfl rfl).fld q1
  obtain ⟨T1, h1, X1, e1, K1, A1, N1, F1, -, -, st⟩ := excL1 X hx hl (s := s.setVm T.vm) hZ hown hok w1 w2 wT wi r hT0 hTh (Vm.MethodsKnown.alikeC hS.1.alike k1) (Vm.FramesKnown.alikeC hS.1.alike k2) rfl (q2.exa q1) ⟨cl, q1, q4, q5⟩ f0 f1 hmsg (g := mkF m pc L (msg :: .ref a :: S)) rfl (hL.trans hml.symm) (rest := S) rfl (hb hby hd) hf (by show 2 * 0 + _ + _ ≤ _; omega) hk hn
  subst e1
  have hex := Jvm.Free.Exc.chain_exc links wT
  have KK : Keep T.heap T1.heap [a] := ⟨K1.1, fun x c hc hx => by
      obtain ⟨c', r1, -, -, r4, -⟩ := K1.2 x c hc
      rw [r1, r4 (by simpa using hx)], fun x c hc => by
      obtain ⟨c', r1, r2, r3, -⟩ := K1.2 x c hc
      exact ⟨c', r1, by rw [r2], by rw [r2], r3⟩⟩
  refine (K T1 (W.wrote X1 hi KK (N.six (W.fr hi)) ?_)).step st
  obtain ⟨cl', r1, r2⟩ := exaC A1
  refine ⟨cl', r1, r2, fun j f v hj hv => ?_⟩
  match j, hj, hv with
  | 0, hj, hv => cases hj; cases hv; exact fldC r1 F1
  | j + 1, hj, hv =>
    have hj' : sh[j]? = some f := hj
    have hv' : vs[j]? = some v := hv
    obtain ⟨L1, t, ht⟩ := hsh j f hj'
    have F0 := (q3 (j + 2) f v hj' hv').fld q1
    exact fldC r1 (F0.kp K1 (Or.inr (six_ne hex L1 ht (hnm f (List.mem_of_getElem? hj')))))
end OwnSuper
section OwnExc
open Jvm.Free.Exc
/-- the one atom of the library's list that the sheet lacks: Throwable's own layout of this field -/
abbrev supA : Jvm.Cond := .lays tN tN "suppressedExceptions" listD
/-- Throwable's tables, from the list without that atom: the receiver's own class rc lays the field -/
theorem own_links {args : Array Value} {s : State} {pl : Platform} {rc : String} (howns : pl.frameOwnsMonitors = true) (hfin : pl.finalization = false) (hpl : pl.magicAccessors = ({} : Platform).magicAccessors) (hrc : rc ≠ tN)
    (h : ∀ d ∈ excAtoms rc, d ≠ supA → d.before args s = true) :
    ∃ T : ThrowableC, T.Links pl s ∧ s.vm.findClass tN = some T.cT ∧ s.methodNamed? tFill = some T.fill ∧ s.methodNamed? tFill0 = some T.fill0 ∧ s.fieldFound? tN "stackTrace" steD = some (T.cT, T.kT, T.i17, T.fStack) ∧ T.fStack.name = "stackTrace" ∧ T.fStack.type = .array (.object "java/lang/StackTraceElement") ∧ s.fieldFound? tN "UNASSIGNED_STACK" steD = some (T.cT, T.kT, T.i13, T.fUnassigned) := by
  have w : ∀ d, d ∈ excAtoms rc → d ≠ supA → d.holds args s none s [] = true := fun d hd hne => h d hd hne
  -- the class
  obtain ⟨⟨c, j0⟩, nat, n0, m0, nat1, nat2, nat3, nat4⟩ := Cond.native_spec (w (.native tFill0) (by simp [excAtoms, throwableAtoms]) (by simp))
  have fc : s.vm.findClass tN = some c := findClass_of_methodNamed n0
  obtain ⟨k, hk, hnm⟩ := Vm.findClass_spec fc
  obtain ⟨-, k', -, -, hk', -, -, -, -, hni⟩ := Cond.superclass_spec fc (w (.superclass tN "java/lang/Object") (by simp [excAtoms, throwableAtoms]) (by simp))
  obtain rfl : k = k' := Option.some.inj (hk.symm.trans hk')
  -- the two methods
  obtain ⟨jF, mF, nF, qF, aF, sF, bF, -, -⟩ := Cond.ownMethod (x := tFill) fc hk (w (.instanceMethod tFill) (by simp [excAtoms, throwableAtoms]) (by simp))
  obtain ⟨mF', cF, qF', kF, yF, lF, rF, oF, -, gF⟩ := Cond.codeSync_spec nF (w (.codeSync tFill LibCode.Throwable.Fill.code 1 (some (.object tN))) (by simp [excAtoms, throwableAtoms]) (by simp))
  obtain rfl : mF = mF' := Option.some.inj (qF.symm.trans qF')
  obtain ⟨j0', m0', n0', q0', a0', s0', b0', e0, d0⟩ := Cond.ownMethod (x := tFill0) fc hk (w (.instanceMethod tFill0) (by simp [excAtoms, throwableAtoms]) (by simp))
  obtain rfl : j0 = j0' := by have := Option.some.inj (n0.symm.trans n0'); simpa using this
  obtain rfl : nat = m0' := Option.some.inj (m0.symm.trans q0')
  -- Object's constructor
  obtain ⟨iO, mO, nO, qO, sO, bO⟩ := Cond.instanceMethod_spec (w (.instanceMethod oInit) (by simp [excAtoms, throwableAtoms]) (by simp))
  obtain ⟨mO', cO, qO', kO, yO, -, -, oO, -, gO⟩ := Cond.code_spec nO (w (.code oInit ⟨#[0xb1]⟩ 1 none) (by simp [excAtoms, throwableAtoms]) (by simp))
  obtain rfl : mO = mO' := Option.some.inj (qO.symm.trans qO')
  obtain ⟨clO, hO, nmO⟩ := Vm.findClass_spec (findClass_of_methodNamed nO)
  obtain ⟨eO, dO⟩ := name_of_methodNamed nO qO
  -- the entries
  obtain ⟨u1, v1, cf, l1, r1, f1, p1⟩ := Cond.linkedMethod fc hk nO (w (.methodLink tN 1 oInit) (by simp [excAtoms, throwableAtoms]) (by simp)) pl hpl
  obtain ⟨u27, v27, cf2, l27, r27, f27, p27⟩ := Cond.linkedMethod fc hk nF (w (.methodLink tN 27 tFill) (by simp [excAtoms, throwableAtoms]) (by simp)) pl hpl
  obtain rfl : cf = cf2 := Option.some.inj (f1.symm.trans f27)
  obtain ⟨u202, v202, cf3, l202, r202, f202, p202⟩ := Cond.linkedMethod fc hk n0 (w (.methodLink tN 202 tFill0) (by simp [excAtoms, throwableAtoms]) (by simp)) pl hpl
  obtain rfl : cf = cf3 := Option.some.inj (f1.symm.trans f202)
  obtain ⟨u7, i7, g7, l7, r7, a7, s7, z7, -, -, -⟩ := Cond.ownField (t := .object tN) fc hk (by decide +kernel) (w (.fieldLink tN 7 tN "cause" "Ljava/lang/Throwable;") (by simp [excAtoms, throwableAtoms]) (by simp)) (w (.lays rc tN "cause" "Ljava/lang/Throwable;") (by simp [excAtoms]) (by simp)) pl hpl
  obtain ⟨u17, i17, g17, l17, r17, a17, s17, z17, n17, t17, q17⟩ := Cond.ownField (t := .array (.object "java/lang/StackTraceElement")) fc hk (by decide +kernel) (w (.fieldLink tN 17 tN "stackTrace" steD) (by simp [excAtoms, throwableAtoms]) (by simp)) (w (.lays rc tN "stackTrace" steD) (by simp [excAtoms]) (by simp)) pl hpl
  obtain ⟨u24, i24, g24, l24, r24, a24, s24, z24, n24, -, q24⟩ := Cond.ownField (t := .object "java/util/List") fc hk (by decide +kernel) (w (.fieldLink tN 24 tN "suppressedExceptions" listD) (by simp [excAtoms, throwableAtoms]) (by simp)) (w (.lays rc tN "suppressedExceptions" listD) (by simp [excAtoms]) (by simp [hrc])) pl hpl
  obtain ⟨u13, i13, g13, aS, clS, l13, r13, a13, s13, -, -, hst, -, -, -, -, q13⟩ := Cond.ownStatic (t := .array (.object "java/lang/StackTraceElement")) fc hk (by decide +kernel) (w (.fieldLink tN 13 tN "UNASSIGNED_STACK" steD) (by simp [excAtoms, throwableAtoms]) (by simp)) (w (.laysStatic tN "UNASSIGNED_STACK" steD) (by simp [excAtoms, throwableAtoms]) (by simp)) pl hpl
  obtain ⟨u20, i20, g20, -, -, l20, r20, a20, s20, -⟩ := Cond.ownStatic (t := .object "java/util/List") fc hk (by decide +kernel) (w (.fieldLink tN 20 tN "SUPPRESSED_SENTINEL" listD) (by simp [excAtoms, throwableAtoms]) (by simp)) (w (.laysStatic tN "SUPPRESSED_SENTINEL" listD) (by simp [excAtoms, throwableAtoms]) (by simp)) pl hpl
  obtain ⟨cR, kR, -, -, -, gM, fR, hkR, -, sM, zM, -⟩ := Cond.lays_spec (w (.lays rc tN "detailMessage" msgD) (by simp [excAtoms]) (by simp))
  obtain ⟨-, dS, dS1, dS2⟩ := Cond.laysAt fR hkR q17 (w (.lays rc tN "stackTrace" steD) (by simp [excAtoms]) (by simp))
  obtain ⟨-, dP, dP1, dP2⟩ := Cond.laysAt fR hkR q24 (w (.lays rc tN "suppressedExceptions" listD) (by simp [excAtoms]) (by simp [hrc]))
  have apart : g17.slot ≠ g24.slot := Cond.laysApart dS1 dP1 dS2 dP2 (by rw [n17, n24]; decide)
  have pF : mF.sig.parameters = [] := by
    have : (parseMethodDescriptor tFill.desc).map (·.parameters) = some [] := by decide +kernel
    rw [gF] at this; simpa using this
  have pN : nat.sig.parameters = [.int] := by
    have : (parseMethodDescriptor tFill0.desc).map (·.parameters) = some [.int] := by decide +kernel
    rw [nat4] at this; simpa using this
  have pO : mO.sig.parameters.length = 0 := by
    have : (parseMethodDescriptor oInit.desc).map (·.parameters.length) = some 0 := by decide +kernel
    rw [gO] at this; simpa using this
  refine ⟨⟨⟨c, k, c, aS, jF, j0, jF, iO, clO, mF, nat, mF, mO, cF, cF, cO, g7, g7, g17, g7, g24, gM, g13, g20⟩, cf, u1, v1, u27, v27, u202, v202, u7, i7, u13, i13, u17, i17, u20, i20, u24, i24⟩, ?_, fc, nF, n0, q17, n17, t17, q13⟩
  constructor <;> first | assumption | exact Vm.findClass_boot fc hk | exact Cond.initialized_spec fc hk (w (.initialized tN) (by simp [excAtoms, throwableAtoms]) (by simp)) | (rw [dO]; exact lookupSpecial_of_named nO qO sO)
variable {kn : Prop} {p : Program} {l : Launch} {e : Env} {R : Room} {s : State} {m : MethodId} {args : Array Value} {below : List Frame} {meth : Method} {c : Code} {bytes : ByteArray} {maxL : Nat} {ret : Option FieldType} {Z : State} {a0 : Array Value} {EL : List (String × Nat)} {own : String} {T : State} {O O' P : List Ent} {k n : Nat} {Q : Option Value → List Ent → List Ent → Prop} {pc q : Nat} {L : Array Slot} {S : List Value}
/-- a field of an object as new is written -/
theorem g_putFU (W : Wk kn p l e R s m args below meth c bytes maxL ret Z a0 EL own T O P k n) {i j index kk : Nat} {a : Addr} {C F nm d : String} {sh : Shape} {vs vs' : List Value} {v old : Value} {ty : FieldType} (hi : O[i]? = some (a, UObj Z C sh vs)) (hsh : ShOk Z a0 C sh) (nd : (sh.map (·.2.1)).Nodup) (hs : sh[j]? = some (F, nm, d)) (ho : vs[j]? = some old) (w : (Jvm.Cond.fieldLink own index F nm d).before a0 Z = true)
    (hl : (Jvm.Cond.lays C F nm d).before a0 Z = true) (wi : (Jvm.Cond.instantiable C kk).before a0 Z = true) (hty : parseFieldDescriptor d = some ty) (hn : narrow ty v = v) (hf : fits ty v = true)
    (hd : decode bytes pc = .ok (.putfield index, 3)) (hq : pc + 3 = q) (hvs : vs.set j v = vs') (hO : O.set i (a, UObj Z C sh vs') = O') (K : ∀ T', Wk kn p l e R s m args below meth c bytes maxL ret Z a0 EL own T' O' P k n → Go p e below s R Z EL Q T' (mkF m q L S)) : Go p e below s R Z EL Q T (mkF m pc L (v :: .ref a :: S)) := by
  subst hq; subst hO; subst hvs
  obtain ⟨cl, q1, q2, q3, q4⟩ := W.ow hi
  obtain ⟨⟨hx, hby, -⟩, locs, X, -, hZ, hown, N, -⟩ := id W
  obtain ⟨T1, h1, X1, e1, Wr1, st⟩ := putF X hx (s := s.setVm T.vm) hZ hown (host := "") (Or.inl w) Via.refl rfl ((q2.get hs ho).fld q1) (q2.1.exa q1) (Or.inl hl) wi hty hn hf (g := mkF m pc L (v :: .ref a :: S)) rfl rfl (hb hby hd)
  subst e1
  have hset := q2.set hsh nd hs Wr1 q1
  have hu : ∃ c', T1.heap[a]? = some c' ∧ c'.vm = .none ∧ c'.monitor = {} := by
    obtain ⟨c0, w1, -, -, w4⟩ := Wr1
    cases q1.symm.trans w1
    refine ⟨cl.setSlot (Jvm.RoadKit.slotOf Z F nm d) v, ?_, q3, q4⟩
    rw [w4, Array.getElem?_setIfInBounds_self_of_lt (Array.getElem?_eq_some_iff.mp q1).1]
  obtain ⟨c1, r1, r2⟩ := hset
  obtain ⟨c2, u1, u2⟩ := hu
  cases r1.symm.trans u1
  exact (K T1 (W.wrote X1 hi (Keep.of_wr Wr1) (Fr.snoc X1 N (W.fr hi)) ⟨_, r1, r2, u2⟩)).step st
/-- fillInStackTrace() on an object as new -/
theorem g_fill (W : Wk kn p l e R s m args below meth c bytes maxL ret Z a0 EL "java/lang/Throwable" T O P k n) (hkn : kn) (hl : l.stackTraces = true) {i ns : Nat} {a ur : Addr} {rc : String} {sh : Shape} {vs : List Value}
    (hi : O[i]? = some (a, UObj Z rc (("java/lang/Throwable", "backtrace", "Ljava/lang/Object;") :: ("java/lang/Throwable", "stackTrace", "[Ljava/lang/StackTraceElement;") :: sh) (.null :: .ref ur :: vs)))
    (hU : Sta Z Z.heap "java/lang/Throwable" "UNASSIGNED_STACK" "[Ljava/lang/StackTraceElement;" (.ref ur)) (hrc : rc ≠ tN) (hA : ∀ d ∈ excAtoms rc, d ≠ supA → d.before a0 Z = true) (wi : (Jvm.Cond.instantiable rc ns).before a0 Z = true)
    (hsh : ShOk Z a0 rc sh) (hnm : ∀ f ∈ sh, f.2.1 ≠ "backtrace" ∧ f.2.1 ≠ "depth" ∧ f.2.1 ≠ "stackTrace") (hd : decode bytes pc = .ok (.invokevirtual 27, 3)) (hq : pc + 3 = q) (hL : L.size = maxL) (hf : 3 ≤ R.frames) (hlo : (S.map fun v => v.category).sum + 42 ≤ R.locals) (hk : k + 1 ≤ R.cells) (hn : n + 2752 ≤ R.slots)
    (hO : O.set i (a, ObjC Z rc sh vs) = O') (K : ∀ T', Wk kn p l e R s m args below meth c bytes maxL ret Z a0 EL "java/lang/Throwable" T' O' P (k + 1) (n + 2752) → Go p e below s R Z EL Q T' (mkF m q L (.ref a :: S))) : Go p e below s R Z EL Q T (mkF m pc L (.ref a :: S)) := by
  subst hq; subst hO
  obtain ⟨cl, q1, ⟨q2, q3⟩, q4, q5⟩ := W.ow hi
  obtain ⟨⟨hx, hby, hml, -, -, -, hk0⟩, locs, X, hS, hZ, hown, N, -⟩ := id W
  obtain ⟨⟨k1, k2⟩, E0⟩ := hk0 hkn
  have hT0 : ThS Z (s.setVm T.vm).heap := ThS.start.ext E0
  have a' : ∀ d ∈ excAtoms rc, d ≠ supA → d.before args (s.setVm T.vm) = true := fun d hd hne => mvX (s := s.setVm T.vm) hT0 hZ (List.all_eq_true.mp exc_ok d hd) (hA d hd hne)
  have htr : e.platform.stackTraces = true := by rw [X.admits.platform]; exact hl
  have hpl : e.platform.magicAccessors = ({} : Platform).magicAccessors := by rw [X.admits.platform]
  obtain ⟨TT, LL, fT, fF, fF0, fSt, nSt, tSt, fUn⟩ := own_links (pl := e.platform) (by rw [X.admits.platform]) (by rw [X.admits.platform]) hpl hrc a'
  obtain ⟨kk, x1, x2, x3, x4⟩ := id q2
  have hal : Z.vm.Alike T.vm := hZ.alike
  have hfound : (s.setVm T.vm).vm.findClass rc = some cl.cls := by show T.vm.findClass rc = _; rw [hal.findClass]; exact x1
  obtain ⟨ci, ki, y1, y2, y3, -⟩ := Cond.instantiable_spec (mvT (args := args) (s := s.setVm T.vm) hZ wi)
  obtain rfl : ci = cl.cls := Option.some.inj (y1.symm.trans hfound)
  obtain ⟨k', z1, z2⟩ := hal.2.2 _ _ x2
  obtain rfl : k' = ki := Option.some.inj (z1.symm.trans y2)
  have hsz : cl.slots.size = k'.instanceTypes.size := by
    have hord : kk.kind = .ordinary := by rw [z2] at y3; exact y3
    rw [z2]; exact x4 hord
  have tk : ∀ {f : Field} {v : Value}, k'.instanceTypes[f.slot]? = some f.type → fits f.type v = true → Jvm.Takes (s.setVm T.vm) cl f v := fun {f v} h1 h2 => by
    obtain ⟨t1, t2⟩ := Takes.of_laid (v := v) y2 y3 h1 h2
    exact ⟨by rw [hsz]; simpa using t1, by rw [q4]; exact t2⟩
  obtain ⟨tyS, dS, dS1, dS2⟩ := Cond.laysAt hfound y2 fSt (a' (.lays rc tN "stackTrace" steD) (by simp [excAtoms]) (by simp))
  obtain ⟨u198, i198, fB, l198, r198, at198, sB, -, nB, tB, ffB⟩ := Cond.ownField (t := .object "java/lang/Object") fT LL.cls (by decide +kernel) (a' (.fieldLink tN 198 tN "backtrace" obD) (by simp [excAtoms]) (by simp)) (a' (.lays rc tN "backtrace" obD) (by simp [excAtoms]) (by simp)) e.platform hpl
  obtain ⟨-, -, cD, kD, iD, fD, -, -, ffD, sD, -⟩ := Cond.lays_spec (a' (.lays rc tN "depth" "I") (by simp [excAtoms]) (by simp))
  obtain rfl : cD = TT.cT := Option.some.inj ((Cond.lays_declared (a' (.lays rc tN "depth" "I") (by simp [excAtoms]) (by simp)) ffD).symm.trans fT)
  obtain ⟨kD1, atD⟩ := State.fieldFound?_spec ffD
  obtain rfl : kD = TT.kT := Option.some.inj (kD1.symm.trans LL.cls)
  obtain ⟨nD, tD⟩ := State.fieldFound?_type ffD (t := .int) (by decide +kernel)
  have fb := Cond.soleField_find fT LL.cls (a' (.soleField tN "backtrace") (by simp [excAtoms]) (by simp)) at198 nB sB
  have fd := Cond.soleField_find fT LL.cls (a' (.soleField tN "depth") (by simp [excAtoms]) (by simp)) atD nD sD
  obtain ⟨comp, cO, kO, -, -, hkO, hkindO, hO⟩ := Cond.arrayOver_spec (a' (.arrayOver (.object "java/lang/Object")) (by simp [excAtoms]) (by simp))
  obtain ⟨tyB, dB, dB1, dB2⟩ := Cond.laysAt hfound y2 ffB (a' (.lays rc tN "backtrace" obD) (by simp [excAtoms]) (by simp))
  obtain ⟨tyD, dD, dD1, dD2⟩ := Cond.laysAt hfound y2 ffD (a' (.lays rc tN "depth" "I") (by simp [excAtoms]) (by simp))
  have same : ∀ {nm d : String} {v : Value} {cf i : Nat} {kf : Class} {f : Field}, FldC Z tN nm d v cl → (s.setVm T.vm).fieldFound? tN nm d = some (cf, kf, i, f) → cl.slots[f.slot]? = some v := fun {nm d v cf i kf f} F ff => by
    obtain ⟨c1, k1, i1, f1, g1, -, -, -, -, g2⟩ := F
    obtain ⟨c2, k2, i2, g3⟩ := Jvm.Free.BdW.found_ride (U := Z) (U' := s.setVm T.vm) hal ⟨c1, k1, i1, g1⟩
    cases g3.symm.trans ff
    exact g2
  have vB : cl.slots[fB.slot]? = some .null := same (q3 0 _ _ rfl rfl) ffB
  have vS : cl.slots[TT.fStack.slot]? = some (.ref ur) := same (q3 1 _ _ rfl rfl) fSt
  obtain ⟨cU, iU, kU, fU, stU, cellS, g1, -, -, g4, g5, g6, g7⟩ := hU
  obtain ⟨kU', g8, g9⟩ := State.fieldFound?_setVm hal g1
  have g10 : (s.setVm T.vm).fieldFound? tN "UNASSIGNED_STACK" steD = some (cU, kU', iU, fU) := g8
  have g11 := Option.some.inj (g10.symm.trans fUn)
  simp only [Prod.mk.injEq] at g11
  obtain ⟨-, e2, -, rfl⟩ := g11
  have e3 : TT.aS = stU := by
    have h1 := LL.statics
    rw [← e2, g9] at h1
    exact Option.some.inj (h1.symm.trans g4)
  have hcS : T.heap[TT.aS]? = some cellS := by rw [e3]; exact W.old.2 _ _ g5
  have hne : TT.aS ≠ a := fun h => by
    have h1 := (Array.getElem?_eq_some_iff.mp g5).1
    have h2 := W.fr hi
    rw [e3] at h; rw [h] at h1; exact absurd h1 (Nat.not_lt.mpr h2)
  have hSE := a' (.selects rc tFill tFill) (by simp [excAtoms]) (by simp)
  have hsel0 : selectMethod e.platform (s.setVm T.vm).vm cl.cls TT.fill0 = .method TT.fill0 := by
    obtain ⟨c2, r2, m2, h1, h2, h3, h4, -⟩ := Cond.selects_spec (a' (.selects rc tFill0 tFill0) (by simp [excAtoms]) (by simp))
    cases Option.some.inj (h1.symm.trans hfound)
    cases Option.some.inj (h2.symm.trans (State.methodFound?_of_named fF0 (by decide)))
    cases Option.some.inj (h3.symm.trans fF0)
    rw [Launch.admits_selectMethod X.admits]; exact h4
  have pays := Jvm.Free.Str.fillPays (l := l) (R := R) (len := 3) (W := (S.map fun v => v.category).sum) (sargs := args) hx htr TT LL fF (u0 := ⟨.ref ur, rfl⟩) (by intro h; cases h) (self := a) (cell := cl) (cellS := cellS) (fun _ => by rw [q4]; simp) (by rw [q4]; simp) (by rw [q5]) (by rw [q5]) vS hsel0 hne (fun h => by rw [h] at g6; cases g6) g7
    (tk tyS (by rw [tSt]; rfl)) ⟨⟨u198, i198, fB⟩, ⟨l198, r198, at198, sB⟩, vB⟩ (Vm.MethodsKnown.alikeC hS.1.alike k1) (Vm.FramesKnown.alikeC hS.1.alike k2) fT hO hkO hkindO fb fd (fun x => tk tyB (by rw [tB]; rfl)) (fun x => tk tyD (by rw [tD]; rfl)) (by omega) hlo
  obtain ⟨v6, vm6, ⟨T6, L6, c6, n6⟩, -, X6, ⟨hv6, vm', lines, hlines, -, hU6, hL6, hc6, hn6⟩, st⟩ := X.virtualBack hx (own := "java/lang/Throwable") (C := rc) (index := 27) (y := tFill) (z := tFill) hown (a' (.methodLink tN 27 tFill) (by simp [excAtoms, throwableAtoms]) (by simp)) (a' (.declares tFill) (by simp [excAtoms]) (by simp)) (notFace_of_selects hSE) hSE (a' (.instanceMethod tFill) (by simp [excAtoms, throwableAtoms]) (by simp)) (by decide) pays (b := a) (cB := cl.cls) hfound ⟨cl, q1, rfl, by rw [q4]; rfl⟩ (g := mkF m pc L (.ref a :: S)) rfl (hL.trans hml.symm) (Steps.refl _) (argsL := []) (rest := S)
    (fun sig h => by rw [show parseMethodDescriptor tFill.desc = some ⟨[], some (.object tN)⟩ from by decide +kernel] at h; rw [← Option.some.inj h]; rfl) rfl (by show 2 * 0 + _ ≤ _; omega) (hb hby hd) (fun vmx hWx => ⟨rfl, hk, hn, q1, hcS⟩)
  dsimp only [Pt.U, Pt.locs, Pt.cells, Pt.slots] at X6 hU6 hL6 hc6 hn6 st
  subst hv6
  have hsize : (traceHolder cO lines).slots.size ≤ 2752 := traceHolder_size_le cO hlines
  have hlt := (Array.getElem?_eq_some_iff.mp q1).1
  obtain ⟨C6, eC⟩ : ∃ x, x = Jvm.Free.Str.filledOn TT.toThrowableT fB fD cl ⟨.ref ur, rfl⟩ T.heap.size lines.length.toInt32 := ⟨_, rfl⟩
  have hh : T6.heap = (T.heap.push (traceHolder cO lines)).setIfInBounds a C6 := by rw [hU6, eC]; rfl
  have c1 : C6.cls = cl.cls := by rw [eC]; rfl
  have c2 : C6.vm = cl.vm := by rw [eC]; rfl
  have c3 : C6.slots.size = cl.slots.size := by rw [eC]; simp [Jvm.Free.Str.filledOn, Cell.setSlot]
  have c4 : ∀ i, i ≠ fB.slot → i ≠ fD.slot → i ≠ TT.fStack.slot → C6.slots[i]? = cl.slots[i]? := fun i h1 h2 h3 => by rw [eC]; simp [Jvm.Free.Str.filledOn, Cell.setSlot, Array.getElem?_setIfInBounds, Ne.symm h1, Ne.symm h2, Ne.symm h3]
  have hself : T6.heap[a]? = some C6 := by rw [hh, Array.getElem?_setIfInBounds_self_of_lt (by rw [Array.size_push]; omega)]
  have hoth : ∀ (x : Addr) (cx : Cell), T.heap[x]? = some cx → x ≠ a → T6.heap[x]? = some cx := fun x cx h1 h2 => by
    have h3 := (Array.getElem?_eq_some_iff.mp h1).1
    rw [hh, Array.getElem?_setIfInBounds_ne (Ne.symm h2), Array.getElem?_push_lt h3, ← Array.getElem?_eq_getElem h3, h1]
  have KK : Keep T.heap T6.heap [a] := ⟨by rw [hh, Array.size_setIfInBounds, Array.size_push]; omega, fun x cx h1 h2 => hoth x cx h1 (by simpa using h2), fun x cx h1 => by
    by_cases e : x = a
    · subst e; cases q1.symm.trans h1; exact ⟨C6, hself, c1, c2, c3⟩
    · exact ⟨cx, hoth x cx h1 e, rfl, rfl, rfl⟩⟩
  have N6 : Fr Z.heap.size L6 := by rw [hL6]; exact N.app (fun y hy => by simp only [List.mem_cons, List.not_mem_nil, or_false] at hy; rcases hy with rfl | rfl | rfl <;> exact W.fr hi)
  have W6 := W.wrote X6 hi KK N6 (ψ := ObjC Z rc sh vs) ⟨C6, hself, ⟨kk, by rw [c1]; exact x1, by rw [c1]; exact x2, by rw [c2]; exact x3, fun h => by rw [c3]; exact x4 h⟩, fun j f v hj hv => by
    obtain ⟨cf, kf, jf, ff, r1, r2, r3, r4, r5, r6⟩ := q3 (j + 2) f v hj hv
    obtain ⟨L1, t, ht⟩ := hsh j f hj
    have hn3 := hnm f (List.mem_of_getElem? hj)
    obtain ⟨c2', k2', i2', g3'⟩ := Jvm.Free.BdW.found_ride (U := Z) (U' := s.setVm T.vm) hal ⟨cf, kf, jf, r1⟩
    have slotF : Jvm.RoadKit.slotOf Z f.1 f.2.1 f.2.2 = ff.slot := by simp [Jvm.RoadKit.slotOf, r1]
    have ridden : ∀ {nm d : String} {cg ig : Nat} {kg : Class} {fg : Field}, (s.setVm T.vm).fieldFound? tN nm d = some (cg, kg, ig, fg) → Jvm.RoadKit.slotOf Z tN nm d = fg.slot := fun {nm d cg ig kg fg} hg => by
      obtain ⟨c5, k5, i5, g5⟩ := Jvm.Free.BdW.found_ride (U := s.setVm T.vm) (U' := Z) hal.symm ⟨cg, kg, ig, hg⟩
      simp [Jvm.RoadKit.slotOf, g5]
    refine ⟨cf, kf, jf, ff, r1, r2, by rw [c2]; exact r3, by rw [c2]; exact r4, by rw [c1]; exact r5, ?_⟩
    rw [c4 ff.slot ?_ ?_ ?_]; exact r6
    · rw [← slotF, ← ridden ffB]; exact slot_ne L1 (Or.inl (hA (.lays rc tN "backtrace" obD) (by simp [excAtoms]) (by simp))) hn3.1 ht (by decide +kernel : parseFieldDescriptor obD = some (.object "java/lang/Object"))
    · rw [← slotF, ← ridden ffD]; exact slot_ne L1 (Or.inl (hA (.lays rc tN "depth" "I") (by simp [excAtoms]) (by simp))) hn3.2.1 ht (by decide +kernel : parseFieldDescriptor "I" = some .int)
    · rw [← slotF, ← ridden fSt]; exact slot_ne L1 (Or.inl (hA (.lays rc tN "stackTrace" steD) (by simp [excAtoms]) (by simp))) hn3.2.2 ht (by decide +kernel : parseFieldDescriptor steD = some (.array (.object "java/lang/StackTraceElement")))⟩
  exact (K T6 (W6.fewer (by rw [hc6]; exact Nat.le_refl _) (by rw [hn6]; omega))).back st
end OwnExc

theorem lit_37 : (∀ c ∈ ("operation_not_running" : String).toList, c.toNat < 256) ∧ ("operation_not_running" : String).toList.map (fun c => Value.int (Jvm.Lit.byteI c.toNat.toUInt16)) = enc [(111 : Int32), (112 : Int32), (101 : Int32), (114 : Int32), (97 : Int32), (116 : Int32), (105 : Int32), (111 : Int32), (110 : Int32), (95 : Int32), (110 : Int32), (111 : Int32), (116 : Int32), (95 : Int32), (114 : Int32), (117 : Int32), (110 : Int32), (110 : Int32), (105 : Int32), (110 : Int32), (103 : Int32)] := by decide +kernel
theorem lit_58 : (∀ c ∈ ("operation [" : String).toList, c.toNat < 256) ∧ ("operation [" : String).toList.map (fun c => Value.int (Jvm.Lit.byteI c.toNat.toUInt16)) = enc [(111 : Int32), (112 : Int32), (101 : Int32), (114 : Int32), (97 : Int32), (116 : Int32), (105 : Int32), (111 : Int32), (110 : Int32), (32 : Int32), (91 : Int32)] := by decide +kernel
theorem lit_106 : (∀ c ∈ ("] is not running: it is [" : String).toList, c.toNat < 256) ∧ ("] is not running: it is [" : String).toList.map (fun c => Value.int (Jvm.Lit.byteI c.toNat.toUInt16)) = enc [(93 : Int32), (32 : Int32), (105 : Int32), (115 : Int32), (32 : Int32), (110 : Int32), (111 : Int32), (116 : Int32), (32 : Int32), (114 : Int32), (117 : Int32), (110 : Int32), (110 : Int32), (105 : Int32), (110 : Int32), (103 : Int32), (58 : Int32), (32 : Int32), (105 : Int32), (116 : Int32), (32 : Int32), (105 : Int32), (115 : Int32), (32 : Int32), (91 : Int32)] := by decide +kernel
theorem lit_130 : (∀ c ∈ ("]" : String).toList, c.toNat < 256) ∧ ("]" : String).toList.map (fun c => Value.int (Jvm.Lit.byteI c.toNat.toUInt16)) = enc [(93 : Int32)] := by decide +kernel
theorem lit_238 : (∀ c ∈ ("operation_not_running" : String).toList, c.toNat < 256) ∧ ("operation_not_running" : String).toList.map (fun c => Value.int (Jvm.Lit.byteI c.toNat.toUInt16)) = enc [(111 : Int32), (112 : Int32), (101 : Int32), (114 : Int32), (97 : Int32), (116 : Int32), (105 : Int32), (111 : Int32), (110 : Int32), (95 : Int32), (110 : Int32), (111 : Int32), (116 : Int32), (95 : Int32), (114 : Int32), (117 : Int32), (110 : Int32), (110 : Int32), (105 : Int32), (110 : Int32), (103 : Int32)] := by decide +kernel
def EL0 : List (String × Nat) := [("com/example/handover/handover/ApiError", 73), ("com/example/handover/handover/ApiError", 67), ("com/example/handover/handover/ApiError", 75), ("com/example/handover/handover/ApiError", 57), ("com/example/handover/handover/ApiErrorOperationNotRunningPinLaw", 23)]
def Env0 (Z : State) (a0 : Array Value) : Prop := (∀ d ∈ tables_1, d.before a0 Z = true) ∧ (∀ d ∈ jdkStatics_1, d.before a0 Z = true) ∧ EW Z a0 EL0 ∧ (∀ a ∈ Bundle.stringAtoms, a.before a0 Z = true) ∧ (∃ b : Int32, Sta Z Z.heap "java/lang/String" "COMPACT_STRINGS" "Z" (.int b) ∧ ¬ b = 0) ∧ (∃ fv : Value, Sta Z Z.heap "jdk/internal/util/Preconditions" "SIOOBE_FORMATTER" "Ljava/util/function/BiFunction;" fv ∧ fv.isRef = true) ∧ Sta Z Z.heap "java/lang/StringUTF16" "$assertionsDisabled" "Z" (.int (1 : Int32)) ∧ Sta Z Z.heap "java/lang/StringUTF16" "HI_BYTE_SHIFT" "I" (.int (0 : Int32)) ∧ Sta Z Z.heap "java/lang/StringUTF16" "LO_BYTE_SHIFT" "I" (.int (8 : Int32)) ∧ ((∃ r, Sta Z Z.heap "java/lang/Throwable" "UNASSIGNED_STACK" "[Ljava/lang/StackTraceElement;" (.ref r)) ∧ (∃ r, Sta Z Z.heap "java/lang/Throwable" "SUPPRESSED_SENTINEL" "Ljava/util/List;" (.ref r)))
theorem own_fill0 {cs : List Int32} {i : Nat} (h : i < cs.length) : (enc (cs.take i) ++ List.replicate (cs.length - i) (Value.int 0))[i]? = some (.int 0) := by
  have e2 : (enc (cs.take i)).length = i := by rw [enc_len, List.length_take]; omega
  rw [List.getElem?_append_right (by omega), e2, Nat.sub_self, List.getElem?_replicate]; simp; omega
theorem own_narb (d : Int32) : nar .byte d.toInt8.toInt32 = d.toInt8.toInt32 := by simp [nar]
/-- the String x spells cs, each 0 to 255 -/
def IsL1 (Z : State) (P : List Ent) (x : Addr) (cs : List Int32) : Prop := ∃ b, (x, ObjC Z "java/lang/String" shStr [.ref b, .int (0 : Int32)]) ∈ P ∧ (b, ArrC Z .byte (enc cs)) ∈ P
theorem IsL1.up {Z : State} {P P' : List Ent} {x : Addr} {cs : List Int32} (h : IsL1 Z P x cs) (hs : ∀ y ∈ P, y ∈ P') : IsL1 Z P' x cs := by obtain ⟨b, h1, h2⟩ := h; exact ⟨b, hs _ h1, hs _ h2⟩
theorem shStr_nd : (shStr.map (·.2.1)).Nodup := by decide +kernel
theorem shStr_ds : shStr.map (fun f => (parseFieldDescriptor f.2.2).map defaultValue) = [Value.null, .int 0].map some := by decide +kernel
theorem own_shr0 (x : Int32) : x >>> ((0 : Int32) &&& 31) = x := by
  have := c_ishr x 0 0 (by decide)
  rw [← Int32.toInt_inj, this]; simp
theorem own_b2c {c : Int32} (h : 0 ≤ c.toInt ∧ c.toInt ≤ 255) : c.toInt8.toInt32 &&& (255 : Int32) = c := by
  have h1 := c_i2b c
  have h2 := c_mask c.toInt8.toInt32 255 8 (by decide) (by decide)
  rw [← Int32.toInt_inj, h2]; omega
theorem own_b2inj {c d : Int32} (h : 0 ≤ c.toInt ∧ c.toInt ≤ 255) (h2 : 0 ≤ d.toInt ∧ d.toInt ≤ 255) (e : c.toInt8.toInt32 = d.toInt8.toInt32) : c = d := by
  rw [← own_b2c h, ← own_b2c h2, e]
theorem own_narcR {c : Int32} (h : 0 ≤ c.toInt ∧ c.toInt < 65536) : narrow .char (.int c) = .int c := congrArg Value.int (own_chr h)
theorem own_ext {cs ds : List Int32} (h : cs.length = ds.length) (e : ∀ t, t < cs.length → cs[t]? = ds[t]?) : cs = ds := List.ext_getElem? fun t => by
  rcases Nat.lt_or_ge t cs.length with q | q
  · exact e t q
  · rw [List.getElem?_eq_none q, List.getElem?_eq_none (by omega)]
theorem own_ex {h : Heap} {a : Addr} {φ ψ : Cell → Prop} (H : ∃ c, h[a]? = some c ∧ φ c) (f : ∀ c, φ c → ψ c) : ∃ c, h[a]? = some c ∧ ψ c := by obtain ⟨c, h1, h2⟩ := H; exact ⟨c, h1, f c h2⟩
theorem own_and255 (x : Int32) : 0 ≤ (x &&& (255 : Int32)).toInt ∧ (x &&& (255 : Int32)).toInt ≤ 255 := c_and x 255 (by decide)
theorem own_chr255 (x : Int32) : (x &&& (255 : Int32)).toUInt32.toUInt16.toUInt32.toInt32 = (x &&& (255 : Int32)) := own_chr (by have := own_and255 x; omega)
theorem own_narc {c : Int32} (h : 0 ≤ c.toInt ∧ c.toInt < 65536) : nar .char c = c := own_chr h
theorem own_narc255 (x : Int32) : nar .char (x &&& (255 : Int32)) = (x &&& (255 : Int32)) := own_chr255 x
theorem own_gt255 {x : Int32} (h : 0 ≤ x.toInt ∧ x.toInt ≤ 255) : ¬ (255 : Int32) < x := fun z => by
  rw [Int32.lt_iff_toInt_lt] at z; have e : (255 : Int32).toInt = 255 := by decide
  omega
theorem own_le255 (x : Int32) : ¬ (255 : Int32) < (x &&& (255 : Int32)) := own_gt255 (own_and255 x)
theorem own_latOf {cs : List Int32} (h : ∀ d ∈ cs, 0 ≤ d.toInt ∧ d.toInt ≤ 255) : ∀ (j : Nat) (d : Int32), cs[j]? = some d → ¬ (255 : Int32) < d := fun j d q => own_gt255 (h d (List.mem_of_getElem? q))
/-- the bytes of the chars, two each, the low one first -/
def enc16 (cs : List Int32) : List Value := cs.flatMap fun c => [.int c.toInt8.toInt32, .int (c >>> ((8 : Int32) &&& 31)).toInt8.toInt32]
theorem enc16_len : ∀ (cs : List Int32), (enc16 cs).length = 2 * cs.length
  | [] => rfl
  | c :: cs => by
    show (_ :: _ :: enc16 cs).length = _
    simp only [List.length_cons, enc16_len cs]; omega
theorem enc16_app (cs ds : List Int32) : enc16 (cs ++ ds) = enc16 cs ++ enc16 ds := by simp [enc16]
theorem enc16_at : ∀ {cs : List Int32} {i : Nat} {c : Int32}, cs[i]? = some c → (enc16 cs)[2 * i]? = some (.int c.toInt8.toInt32) ∧ (enc16 cs)[2 * i + 1]? = some (.int (c >>> ((8 : Int32) &&& 31)).toInt8.toInt32)
  | [], i, c, h => by simp at h
  | d :: cs, 0, c, h => by cases h; exact ⟨rfl, rfl⟩
  | d :: cs, i + 1, c, h => by
    have := enc16_at (cs := cs) (i := i) (c := c) h
    exact ⟨(by rw [show 2 * (i + 1) = 2 * i + 1 + 1 by omega]; exact this.1), (by rw [show 2 * (i + 1) + 1 = 2 * i + 1 + 1 + 1 by omega]; exact this.2)⟩
def fill16 (cs : List Int32) (i : Nat) : List Value := enc16 (cs.take i) ++ List.replicate (2 * (cs.length - i)) (Value.int 0)
theorem fill16_len {cs : List Int32} {i : Nat} (h : i ≤ cs.length) : (fill16 cs i).length = 2 * cs.length := by
  simp only [fill16, List.length_append, enc16_len, List.length_take, List.length_replicate]; omega
theorem fill16_z {cs : List Int32} {i j : Nat} (h : i < cs.length) (hj : j = 2 * i ∨ j = 2 * i + 1) : (fill16 cs i)[j]? = some (.int 0) := by
  have e2 : (enc16 (cs.take i)).length = 2 * i := by rw [enc16_len, List.length_take]; omega
  rw [fill16, List.getElem?_append_right (by omega), List.getElem?_replicate, if_pos (by omega)]
theorem fill16_step {cs : List Int32} {i : Nat} {c : Int32} (h : cs[i]? = some c) : ((fill16 cs i).set (2 * i) (.int c.toInt8.toInt32)).set (2 * i + 1) (.int (c >>> ((8 : Int32) &&& 31)).toInt8.toInt32) = fill16 cs (i + 1) := by
  have hi : i < cs.length := (List.getElem?_eq_some_iff.mp h).1
  have e2 : (enc16 (cs.take i)).length = 2 * i := by rw [enc16_len, List.length_take]; omega
  have e1 : 2 * (cs.length - i) = 2 * (cs.length - (i + 1)) + 1 + 1 := by omega
  have e3 : cs.take (i + 1) = cs.take i ++ [c] := by rw [List.take_add_one, h]; rfl
  rw [fill16, fill16, List.set_append_right _ _ (by omega), e2, Nat.sub_self, e1, List.replicate_succ, List.replicate_succ, List.set_cons_zero, List.set_append_right _ _ (by omega), e2, show 2 * i + 1 - 2 * i = 0 + 1 by omega, List.set_cons_succ, List.set_cons_zero, e3, enc16_app]
  simp [enc16]
theorem own_shl1 {i : Nat} (h : 2 * i < 2 ^ 31) : i.toInt32 <<< ((1 : Int32) &&& 31) = (2 * i).toInt32 := by
  have h1 := c_ishl i.toInt32 1 1 (by decide)
  rw [own_i32 (by omega)] at h1
  have h2 := rng32 (i.toInt32 <<< ((1 : Int32) &&& 31))
  rw [← Int32.toInt_inj, own_i32 h]; omega
theorem own_shr1 {i : Nat} (h : 2 * i < 2 ^ 31) : (2 * i).toInt32 >>> ((1 : Int32) &&& 31) = i.toInt32 := by
  have h1 := c_ishr (2 * i).toInt32 1 1 (by decide)
  rw [own_i32 h] at h1
  rw [← Int32.toInt_inj, h1, own_i32 (by omega)]; omega
theorem own_lo {c : Int32} : (c.toInt8.toInt32 &&& (255 : Int32)).toInt = c.toInt % 256 := by
  have h1 := c_i2b c
  have h2 := c_mask c.toInt8.toInt32 255 8 (by decide) (by decide)
  rw [h2]; omega
theorem own_get16 {c : Int32} (h : 0 ≤ c.toInt ∧ c.toInt < 65536) : (((c.toInt8.toInt32 &&& (255 : Int32)) <<< ((0 : Int32) &&& 31)) ||| (((c >>> ((8 : Int32) &&& 31)).toInt8.toInt32 &&& (255 : Int32)) <<< ((8 : Int32) &&& 31))) = c := by
  have l1 := own_lo (c := c)
  have l2 := own_lo (c := c >>> ((8 : Int32) &&& 31))
  have s1 := c_ishr c 8 8 (by decide)
  have s2 := c_ishl (c.toInt8.toInt32 &&& (255 : Int32)) 0 0 (by decide)
  have s3 := c_ishl ((c >>> ((8 : Int32) &&& 31)).toInt8.toInt32 &&& (255 : Int32)) 8 8 (by decide)
  have r2 := rng32 ((c.toInt8.toInt32 &&& (255 : Int32)) <<< ((0 : Int32) &&& 31))
  have r3 := rng32 (((c >>> ((8 : Int32) &&& 31)).toInt8.toInt32 &&& (255 : Int32)) <<< ((8 : Int32) &&& 31))
  have a2 : ((c.toInt8.toInt32 &&& (255 : Int32)) <<< ((0 : Int32) &&& 31)).toInt = c.toInt % 256 := by omega
  have a3 : (((c >>> ((8 : Int32) &&& 31)).toInt8.toInt32 &&& (255 : Int32)) <<< ((8 : Int32) &&& 31)).toInt = c.toInt / 256 * 256 := by omega
  have o := c_or' ((c.toInt8.toInt32 &&& (255 : Int32)) <<< ((0 : Int32) &&& 31)) (((c >>> ((8 : Int32) &&& 31)).toInt8.toInt32 &&& (255 : Int32)) <<< ((8 : Int32) &&& 31)) 8 (by decide) 256 (by decide) (by omega) (by omega) (by omega)
  have r4 := rng32 (((c.toInt8.toInt32 &&& (255 : Int32)) <<< ((0 : Int32) &&& 31)) ||| (((c >>> ((8 : Int32) &&& 31)).toInt8.toInt32 &&& (255 : Int32)) <<< ((8 : Int32) &&& 31)))
  rw [← Int32.toInt_inj]; omega
def Lat (cs : List Int32) : Prop := ∀ (j : Nat) (d : Int32), cs[j]? = some d → ¬ (255 : Int32) < d
/-- the String x spells cs -/
def IsStr (Z : State) (P : List Ent) (x : Addr) (cs : List Int32) : Prop := ∃ b, (Lat cs ∧ (x, ObjC Z "java/lang/String" shStr [.ref b, .int (0 : Int32)]) ∈ P ∧ (b, ArrC Z .byte (enc cs)) ∈ P) ∨ (¬ Lat cs ∧ (x, ObjC Z "java/lang/String" shStr [.ref b, .int (1 : Int32)]) ∈ P ∧ (b, ArrC Z .byte (enc16 cs)) ∈ P)
theorem IsStr.up {Z : State} {P P' : List Ent} {x : Addr} {cs : List Int32} (h : IsStr Z P x cs) (hs : ∀ y ∈ P, y ∈ P') : IsStr Z P' x cs := by
  obtain ⟨b, ⟨h0, h1, h2⟩ | ⟨h0, h1, h2⟩⟩ := h
  · exact ⟨b, Or.inl ⟨h0, hs _ h1, hs _ h2⟩⟩
  · exact ⟨b, Or.inr ⟨h0, hs _ h1, hs _ h2⟩⟩
theorem IsStr.cell {Z : State} {P : List Ent} {x : Addr} {cs : List Int32} (h : IsStr Z P x cs) : ∃ φ, (x, φ) ∈ P ∧ ∀ c, φ c → ExaC Z "java/lang/String" c := by
  obtain ⟨b, ⟨-, h1, -⟩ | ⟨-, h1, -⟩⟩ := h
  · exact ⟨_, h1, fun _ h => h.1⟩
  · exact ⟨_, h1, fun _ h => h.1⟩
theorem own_lat255 {c : Int32} (h : ¬ (255 : Int32) < c) : c.toInt ≤ 255 := by
  rw [Int32.lt_iff_toInt_lt] at h
  have e : (255 : Int32).toInt = 255 := by decide
  omega
theorem lat_nil : Lat [] := fun j d h => by simp at h
theorem own_cf0 (z : Int32) : (XT.ushr (z - z) 31).toInt8.toInt32 = 0 := by rw [Int32.sub_self]; decide
theorem own_cf1 {n : Nat} (h0 : 0 < n) (h : 2 * n < 2 ^ 31) : (XT.ushr (n.toInt32 - (2 * n).toInt32) 31).toInt8.toInt32 = 1 := by
  have h1 : (n.toInt32 - (2 * n).toInt32).toInt = -(n : Int) := by rw [Int32.toInt_sub, own_i32 (by omega), own_i32 h, Int.bmod_eq_of_le (by omega) (by omega)]; omega
  have h2 := c_iushr (n.toInt32 - (2 * n).toInt32) 31 31 (by decide) (by decide)
  have h3 : (XT.ushr (n.toInt32 - (2 * n).toInt32) 31).toInt = 1 := by show ((n.toInt32 - (2 * n).toInt32).toUInt32 >>> ((31 : Int32) &&& 31).toUInt32).toInt32.toInt = 1; rw [h2, h1]; omega
  have h4 : XT.ushr (n.toInt32 - (2 * n).toInt32) 31 = 1 := by rw [← Int32.toInt_inj, h3]; decide
  rw [h4]; decide
theorem shStr_ok {Z : State} {a0 : Array Value} (hw : ∀ d ∈ tables_1, d.before a0 Z = true) : ShOk Z a0 "java/lang/String" shStr := fun i f hf => match i, hf with
    | 0, hf => by cases hf; exact ⟨(Or.inr (own_w hw 30 rfl)), _, (by decide : parseFieldDescriptor "[B" = some (.array .byte))⟩
    | 1, hf => by cases hf; exact ⟨(Or.inr (own_w hw 28 rfl)), _, (by decide : parseFieldDescriptor "B" = some .byte)⟩
    | i + 2, hf => by simp [shStr] at hf
theorem d0_0 : decode jdk_52_method_21_code 0 = .ok (.iconst 0, 1) := by decide +kernel
theorem d0_1 : decode jdk_52_method_21_code 1 = .ok (.istore 5, 2) := by decide +kernel
theorem d0_3 : decode jdk_52_method_21_code 3 = .ok (.iload 5, 2) := by decide +kernel
theorem d0_5 : decode jdk_52_method_21_code 5 = .ok (.iload 4, 2) := by decide +kernel
theorem d0_7 : decode jdk_52_method_21_code 7 = .ok (.if_icmp .ge 37, 3) := by decide +kernel
theorem d0_10 : decode jdk_52_method_21_code 10 = .ok (.aload_n 0, 1) := by decide +kernel
theorem d0_11 : decode jdk_52_method_21_code 11 = .ok (.iload_n 1, 1) := by decide +kernel
theorem d0_12 : decode jdk_52_method_21_code 12 = .ok (.caload, 1) := by decide +kernel
theorem d0_13 : decode jdk_52_method_21_code 13 = .ok (.istore 6, 2) := by decide +kernel
theorem d0_15 : decode jdk_52_method_21_code 15 = .ok (.iload 6, 2) := by decide +kernel
theorem d0_17 : decode jdk_52_method_21_code 17 = .ok (.sipush 255, 3) := by decide +kernel
theorem d0_20 : decode jdk_52_method_21_code 20 = .ok (.if_icmp .le 6, 3) := by decide +kernel
theorem d0_23 : decode jdk_52_method_21_code 23 = .ok (.iload 5, 2) := by decide +kernel
theorem d0_25 : decode jdk_52_method_21_code 25 = .ok (.ireturn, 1) := by decide +kernel
theorem d0_26 : decode jdk_52_method_21_code 26 = .ok (.aload_n 2, 1) := by decide +kernel
theorem d0_27 : decode jdk_52_method_21_code 27 = .ok (.iload_n 3, 1) := by decide +kernel
theorem d0_28 : decode jdk_52_method_21_code 28 = .ok (.iload 6, 2) := by decide +kernel
theorem d0_30 : decode jdk_52_method_21_code 30 = .ok (.i2b, 1) := by decide +kernel
theorem d0_31 : decode jdk_52_method_21_code 31 = .ok (.bastore, 1) := by decide +kernel
theorem d0_32 : decode jdk_52_method_21_code 32 = .ok (.iinc 1 1, 3) := by decide +kernel
theorem d0_35 : decode jdk_52_method_21_code 35 = .ok (.iinc 3 1, 3) := by decide +kernel
theorem d0_38 : decode jdk_52_method_21_code 38 = .ok (.iinc 5 1, 3) := by decide +kernel
theorem d0_41 : decode jdk_52_method_21_code 41 = .ok (.goto (-38), 3) := by decide +kernel
theorem d0_44 : decode jdk_52_method_21_code 44 = .ok (.iload 4, 2) := by decide +kernel
theorem d0_46 : decode jdk_52_method_21_code 46 = .ok (.ireturn, 1) := by decide +kernel
set_option maxRecDepth 65536 in
set_option maxHeartbeats 40000000 in
theorem comp_loop {kn : Prop} {p : Program} {l : Launch} {e : Env} {R : Room} {s : State} {m : MethodId} {args : Array Value} {below : List Frame} {meth : Method} {c : Code} {Z : State} {a0 : Array Value} {P : List Ent} {k n : Nat} {O : List Ent} {a b : Addr} {cs : List Int32} {Q : Option Value → List Ent → List Ent → Prop} (hlen : cs.length < 2 ^ 31) (hP : (a, ArrC Z .char (cs.map .int)) ∈ P) (hk : k ≤ R.cells) (hn : n ≤ R.slots) (hQ : Lat cs → Q (some (.int cs.length.toInt32)) ((b, ArrC Z .byte (enc cs)) :: O) P) (hQ2 : ∀ (i : Nat) (d : Int32) (bs : List Value), cs[i]? = some d → (255 : Int32) < d → Q (some (.int i.toInt32)) ((b, ArrC Z .byte bs) :: O) P) : ∀ (j i : Nat), i + j = cs.length → (∀ (t : Nat) (d : Int32), t < i → cs[t]? = some d → ¬ (255 : Int32) < d) → ∀ (T : State) (s6 : Slot), One s6 →
    Wk kn p l e R s m args below meth c jdk_52_method_21_code 7 (some .int) Z a0 EL0 "java/lang/StringUTF16" T ((b, ArrC Z .byte (enc (cs.take i) ++ List.replicate (cs.length - i) (.int 0))) :: O) P k n → Go p e below s R Z EL0 Q T (mkF m 3 #[.val (.ref a), .val (.int i.toInt32), .val (.ref b), .val (.int i.toInt32), .val (.int cs.length.toInt32), .val (.int i.toInt32), s6] []) := by
  intro j
  induction j with
  | zero =>
    intro i hi hl T s6 hs6 W
    have e : i = cs.length := by omega
    subst e
    rw [List.take_length, Nat.sub_self, List.replicate_zero, List.append_nil] at W
    refine g_iload W d0_3 (q := 5) rfl rfl ?_
    refine g_iload W d0_5 (q := 7) rfl rfl ?_
    refine g_icY W d0_7 (q := 44) (XT.ii_ge_t (fun z => absurd ((own_lt hlen hlen).mp z) (Nat.lt_irrefl _))) (by decide) (by decide) ?_
    refine g_iload W d0_44 (q := 46) rfl rfl ?_
    exact g_retI W rfl (Or.inl rfl) rfl d0_46 hk hn (hQ fun t d h => hl t d (List.getElem?_eq_some_iff.mp h).1 h)
  | succ j ih =>
    intro i hi hl T s6 hs6 W
    have hil : i < cs.length := by omega
    have hi3 : i < 2 ^ 31 := by omega
    obtain ⟨d, hd⟩ : ∃ d, cs[i]? = some d := ⟨_, List.getElem?_eq_getElem hil⟩
    refine g_iload W d0_3 (q := 5) rfl rfl ?_
    refine g_iload W d0_5 (q := 7) rfl rfl ?_
    refine g_icN W d0_7 (q := 10) (XT.ii_ge_f ((own_lt hi3 hlen).mpr hil)) rfl ?_
    refine g_aloadN W d0_10 (q := 11) rfl rfl rfl ?_
    refine g_iloadN W d0_11 (q := 12) rfl rfl ?_
    refine g_caload W (W.rd hP) (own_nn hi3) (i := i) (own_clamp hi3) (v := .int d) (by rw [List.getElem?_map, hd]; rfl) d0_12 (q := 13) rfl ?_
    refine g_istore W d0_13 (q := 15) (L' := #[.val (.ref a), .val (.int i.toInt32), .val (.ref b), .val (.int i.toInt32), .val (.int cs.length.toInt32), .val (.int i.toInt32), .val (.int d)]) (XS.store1 rfl hs6 rfl) rfl ?_
    refine g_iload W d0_15 (q := 17) rfl rfl ?_
    refine g_sipush W (v := (255 : Int32)) d0_17 (q := 20) rfl rfl ?_
    by_cases h255 : (255 : Int32) < d
    · refine g_icN W d0_20 (q := 23) (XT.ii_le_f h255) rfl ?_
      refine g_iload W d0_23 (q := 25) rfl rfl ?_
      exact g_retI W rfl (Or.inl rfl) rfl d0_25 hk hn (hQ2 i d _ hd h255)
    · refine g_icY W d0_20 (q := 26) (XT.ii_le_t h255) (by decide) (by decide) ?_
      refine g_aloadN W d0_26 (q := 27) rfl rfl rfl ?_
      refine g_iloadN W d0_27 (q := 28) rfl rfl ?_
      refine g_iload W d0_28 (q := 30) rfl rfl ?_
      refine g_i2b W d0_30 (q := 31) (z := (d.toInt8.toInt32)) rfl rfl ?_
      refine g_bastore W (i := 0) (ii := i) (y := d.toInt8.toInt32) (old := .int 0) rfl (own_nn hi3) (own_clamp hi3) (own_fill0 hil) (own_narb d) d0_31 (q := 32) rfl (own_fill hd) (O' := (b, ArrC Z .byte (enc (cs.take (i + 1)) ++ List.replicate (cs.length - (i + 1)) (.int 0))) :: O) rfl fun T W => ?_
      refine g_iinc W d0_32 (q := 35) (z := (i + 1).toInt32) (L' := #[.val (.ref a), .val (.int (i + 1).toInt32), .val (.ref b), .val (.int i.toInt32), .val (.int cs.length.toInt32), .val (.int i.toInt32), .val (.int d)]) rfl (own_succ (by omega)) rfl rfl ?_
      refine g_iinc W d0_35 (q := 38) (z := (i + 1).toInt32) (L' := #[.val (.ref a), .val (.int (i + 1).toInt32), .val (.ref b), .val (.int (i + 1).toInt32), .val (.int cs.length.toInt32), .val (.int i.toInt32), .val (.int d)]) rfl (own_succ (by omega)) rfl rfl ?_
      refine g_iinc W d0_38 (q := 41) (z := (i + 1).toInt32) (L' := #[.val (.ref a), .val (.int (i + 1).toInt32), .val (.ref b), .val (.int (i + 1).toInt32), .val (.int cs.length.toInt32), .val (.int (i + 1).toInt32), .val (.int d)]) rfl (own_succ (by omega)) rfl rfl ?_
      refine g_goto W d0_41 (q := 3) (by decide) (by decide) ?_
      exact ih (i + 1) (by omega) (fun t e q r => by rcases Nat.lt_or_ge t i with z | z; exact hl t e z r; obtain rfl : t = i := (by omega); rw [hd] at r; cases r; exact h255) T _ (One.val rfl) W
theorem ef_comp1 (m : MethodId) (a : Addr) (i1 : Int32) (b : Addr) (i2 : Int32) (i3 : Int32) : entryFrame m #[(.ref a), (.int i1), (.ref b), (.int i2), (.int i3)] 7 = mkF m 0 #[.val (.ref a), .val (.int i1), .val (.ref b), .val (.int i2), .val (.int i3), .unset, .unset] [] := by first | (simp [entryFrame, mkF, argsToLocals, Value.category]; done) | rfl
theorem pn_0 : plainName "java/lang/StringUTF16" = true := by first | (simp [plainName, overriddenIn]; done) | decide +kernel
set_option maxRecDepth 65536 in
set_option maxHeartbeats 40000000 in
theorem con_comp1 {kn : Prop} (l : Launch) (Z : State) (a0 : Array Value) (E0 : Env0 Z a0) (O P : List Ent) (a b : Addr) (cs : List Int32) (hlen : cs.length < 2 ^ 31) (hP : (a, ArrC Z .char (cs.map .int)) ∈ P) :
    Con kn l Z EL0 (⟨"java/lang/StringUTF16", "compress", "([CI[BII)I"⟩ : MethodName) jdk_52_method_21_code 7 (some .int) [] ({ frames := 0, cells := 0, slots := 0, locals := 0 } : Room) #[.ref a, .int (0 : Int32), .ref b, .int (0 : Int32), .int cs.length.toInt32] ((b, ArrC Z .byte (List.replicate cs.length (.int 0))) :: O) P (fun v O' P' => P = P' ∧ ((Lat cs ∧ v = some (.int cs.length.toInt32) ∧ O' = (b, ArrC Z .byte (enc cs)) :: O) ∨ (∃ (i : Nat) (d : Int32) (bs : List Value), cs[i]? = some d ∧ (255 : Int32) < d ∧ v = some (.int i.toInt32) ∧ O' = (b, ArrC Z .byte bs) :: O))) := by
  obtain ⟨hw, hs0, hEL, hS, ⟨cs0, hC0, hcs0⟩, ⟨fv, hFv, hfv⟩, hAD, hHI, hLO, hmore⟩ := id E0
  refine con_intro (plainFor_of_name pn_0) hEL (fun m => ef_comp1 m _ _ _ _ _) ?_
  intro p e s m below meth c T W hnm
  refine g_iconst W (v := (0 : Int32)) d0_0 (q := 1) rfl rfl ?_
  refine g_istore W d0_1 (q := 3) (L' := #[.val (.ref a), .val (.int (0 : Int32)), .val (.ref b), .val (.int (0 : Int32)), .val (.int cs.length.toInt32), .val (.int (0 : Int32)), .unset]) rfl rfl ?_
  exact comp_loop hlen hP (Nat.le_of_ble_eq_true rfl) (Nat.le_of_ble_eq_true rfl) (fun h => ⟨rfl, Or.inl ⟨h, rfl, rfl⟩⟩) (fun i d bs h1 h2 => ⟨rfl, Or.inr ⟨i, d, bs, h1, h2, rfl, rfl⟩⟩) cs.length 0 (Nat.zero_add _) (fun t d q => absurd q (Nat.not_lt_zero _)) T _ One.u W
theorem d1_0 : decode jdk_52_method_3_code 0 = .ok (.iload_n 0, 1) := by decide +kernel
theorem d1_1 : decode jdk_52_method_3_code 1 = .ok (.ifCond .ge 11, 3) := by decide +kernel
theorem d1_7 : decode jdk_52_method_3_code 7 = .ok (.dup, 1) := by decide +kernel
theorem d1_11 : decode jdk_52_method_3_code 11 = .ok (.athrow, 1) := by decide +kernel
theorem d1_12 : decode jdk_52_method_3_code 12 = .ok (.iload_n 0, 1) := by decide +kernel
theorem d1_13 : decode jdk_52_method_3_code 13 = .ok (.ldc 20, 2) := by decide +kernel
theorem d1_15 : decode jdk_52_method_3_code 15 = .ok (.if_icmp .lt 40, 3) := by decide +kernel
theorem d1_21 : decode jdk_52_method_3_code 21 = .ok (.dup, 1) := by decide +kernel
theorem d1_25 : decode jdk_52_method_3_code 25 = .ok (.dup, 1) := by decide +kernel
theorem d1_34 : decode jdk_52_method_3_code 34 = .ok (.iload_n 0, 1) := by decide +kernel
theorem d1_43 : decode jdk_52_method_3_code 43 = .ok (.ldc 20, 2) := by decide +kernel
theorem d1_54 : decode jdk_52_method_3_code 54 = .ok (.athrow, 1) := by decide +kernel
theorem d1_55 : decode jdk_52_method_3_code 55 = .ok (.iload_n 0, 1) := by decide +kernel
theorem d1_56 : decode jdk_52_method_3_code 56 = .ok (.iconst 1, 1) := by decide +kernel
theorem d1_57 : decode jdk_52_method_3_code 57 = .ok (.ishl, 1) := by decide +kernel
theorem d1_58 : decode jdk_52_method_3_code 58 = .ok (.ireturn, 1) := by decide +kernel
theorem ef_nbl (m : MethodId) (i : Int32) : entryFrame m #[(.int i)] 1 = mkF m 0 #[.val (.int i)] [] := by first | (simp [entryFrame, mkF, argsToLocals, Value.category]; done) | rfl
set_option maxRecDepth 65536 in
set_option maxHeartbeats 40000000 in
theorem con_nbl {kn : Prop} (l : Launch) (Z : State) (a0 : Array Value) (E0 : Env0 Z a0) (O P : List Ent) (i : Nat) (hi : i ≤ 60000) :
    Con kn l Z EL0 (⟨"java/lang/StringUTF16", "newBytesLength", "(I)I"⟩ : MethodName) jdk_52_method_3_code 1 (some .int) [] ({ frames := 0, cells := 0, slots := 0, locals := 0 } : Room) #[.int i.toInt32] O P (fun v O' P' => v = some (.int (2 * i).toInt32) ∧ O = O' ∧ P = P') := by
  obtain ⟨hw, hs0, hEL, hS, ⟨cs0, hC0, hcs0⟩, ⟨fv, hFv, hfv⟩, hAD, hHI, hLO, hmore⟩ := id E0
  refine con_intro (plainFor_of_name pn_0) hEL (fun m => ef_nbl m _) ?_
  intro p e s m below meth c T W hnm
  refine g_iloadN W d1_0 (q := 1) rfl rfl ?_
  refine g_ifY W d1_1 (q := 12) (XT.i0_ge_t (own_nn (by omega))) (by decide) (by decide) ?_
  refine g_iloadN W d1_12 (q := 13) rfl rfl ?_
  refine g_ldcI W (v := (1073741823 : Int32)) (own_w hw 274 rfl) d1_13 (q := 15) rfl ?_
  refine g_icY W d1_15 (q := 55) (XT.ii_lt_t ((own_lt (j := 1073741823) (by omega) (by decide)).mpr (by omega))) (by decide) (by decide) ?_
  refine g_iloadN W d1_55 (q := 56) rfl rfl ?_
  refine g_iconst W (v := (1 : Int32)) d1_56 (q := 57) rfl rfl ?_
  refine g_ishl W d1_57 (q := 58) (z := (2 * i).toInt32) (own_shl1 (by omega)) rfl ?_
  exact g_retI W rfl (Or.inl rfl) rfl d1_58 (Nat.le_of_ble_eq_true rfl) (Nat.le_of_ble_eq_true rfl) ⟨rfl, rfl, rfl⟩
theorem d2_0 : decode jdk_52_method_2_code 0 = .ok (.iload_n 0, 1) := by decide +kernel
theorem d2_1 : decode jdk_52_method_2_code 1 = .ok (.invokestatic 11, 3) := by decide +kernel
theorem d2_4 : decode jdk_52_method_2_code 4 = .ok (.newarray .byte, 2) := by decide +kernel
theorem d2_6 : decode jdk_52_method_2_code 6 = .ok (.areturn, 1) := by decide +kernel
theorem ef_nbf (m : MethodId) (i : Int32) : entryFrame m #[(.int i)] 1 = mkF m 0 #[.val (.int i)] [] := by first | (simp [entryFrame, mkF, argsToLocals, Value.category]; done) | rfl
theorem pd_0 : parseMethodDescriptor "(I)I" = some ⟨[.int], (some .int)⟩ := by decide +kernel
set_option maxRecDepth 65536 in
set_option maxHeartbeats 40000000 in
theorem con_nbf {kn : Prop} (l : Launch) (Z : State) (a0 : Array Value) (E0 : Env0 Z a0) (O P : List Ent) (i N : Nat) (hi : i ≤ N) (hN : N ≤ 60000) :
    Con kn l Z EL0 (⟨"java/lang/StringUTF16", "newBytesFor", "(I)[B"⟩ : MethodName) jdk_52_method_2_code 1 (some (.array .byte)) [] ({ frames := 1, cells := 1, slots := 2 * N, locals := 12 } : Room) #[.int i.toInt32] O P (fun v O' P' => ∃ u, v = some (.ref u) ∧ O' = (u, ArrC Z .byte (List.replicate (2 * i) (.int 0))) :: O ∧ P = P') := by
  obtain ⟨hw, hs0, hEL, hS, ⟨cs0, hC0, hcs0⟩, ⟨fv, hFv, hfv⟩, hAD, hHI, hLO, hmore⟩ := id E0
  refine con_intro (plainFor_of_name pn_0) hEL (fun m => ef_nbf m _) ?_
  intro p e s m below meth c T W hnm
  refine g_iloadN W d2_0 (q := 1) rfl rfl ?_
  refine g_static W (con_nbl l Z a0 E0 O P i (by omega)) (argsL := [(.int i.toInt32)]) (rest := []) rfl rfl pd_0 rfl (own_w hw 271 rfl) (own_w hw 272 rfl) (own_w hw 18 rfl) (own_w hw 273 rfl) (by decide) d2_1 (q := 4) rfl rfl (Nat.le_of_ble_eq_true rfl) (Nat.le_of_ble_eq_true rfl) (Nat.le_of_ble_eq_true rfl) (by dsimp only; omega) ?_
  rintro _ _ _ T ⟨rfl, rfl, rfl⟩ W
  refine g_newA W (ty := .byte) (cap := 2 * N) (vs := List.replicate (2 * i) (.int 0)) rfl (own_w hw 20 rfl) (own_nn (by omega)) (by rw [own_clamp (by omega)]; omega) (by omega) rfl (by rw [own_clamp (by omega)]; rfl) d2_4 (q := 6) rfl (Nat.le_of_ble_eq_true rfl) (by dsimp only; omega) fun u T W => ?_
  exact g_retA W rfl rfl rfl d2_6 (Nat.le_of_ble_eq_true rfl) (by dsimp only; omega) ⟨u, rfl, rfl, rfl⟩
theorem d3_0 : decode jdk_52_method_4_code 0 = .ok (.getstatic 44, 3) := by decide +kernel
theorem d3_3 : decode jdk_52_method_4_code 3 = .ok (.ifCond .ne 25, 3) := by decide +kernel
theorem d3_6 : decode jdk_52_method_4_code 6 = .ok (.iload_n 1, 1) := by decide +kernel
theorem d3_7 : decode jdk_52_method_4_code 7 = .ok (.ifCond .lt 11, 3) := by decide +kernel
theorem d3_10 : decode jdk_52_method_4_code 10 = .ok (.iload_n 1, 1) := by decide +kernel
theorem d3_11 : decode jdk_52_method_4_code 11 = .ok (.aload_n 0, 1) := by decide +kernel
theorem d3_12 : decode jdk_52_method_4_code 12 = .ok (.invokestatic 48, 3) := by decide +kernel
theorem d3_15 : decode jdk_52_method_4_code 15 = .ok (.if_icmp .lt 13, 3) := by decide +kernel
theorem d3_21 : decode jdk_52_method_4_code 21 = .ok (.dup, 1) := by decide +kernel
theorem d3_27 : decode jdk_52_method_4_code 27 = .ok (.athrow, 1) := by decide +kernel
theorem d3_28 : decode jdk_52_method_4_code 28 = .ok (.iload_n 1, 1) := by decide +kernel
theorem d3_29 : decode jdk_52_method_4_code 29 = .ok (.iconst 1, 1) := by decide +kernel
theorem d3_30 : decode jdk_52_method_4_code 30 = .ok (.ishl, 1) := by decide +kernel
theorem d3_31 : decode jdk_52_method_4_code 31 = .ok (.istore_n 1, 1) := by decide +kernel
theorem d3_32 : decode jdk_52_method_4_code 32 = .ok (.aload_n 0, 1) := by decide +kernel
theorem d3_33 : decode jdk_52_method_4_code 33 = .ok (.iload_n 1, 1) := by decide +kernel
theorem d3_34 : decode jdk_52_method_4_code 34 = .ok (.iinc 1 1, 3) := by decide +kernel
theorem d3_37 : decode jdk_52_method_4_code 37 = .ok (.iload_n 2, 1) := by decide +kernel
theorem d3_38 : decode jdk_52_method_4_code 38 = .ok (.getstatic 59, 3) := by decide +kernel
theorem d3_41 : decode jdk_52_method_4_code 41 = .ok (.ishr, 1) := by decide +kernel
theorem d3_42 : decode jdk_52_method_4_code 42 = .ok (.i2b, 1) := by decide +kernel
theorem d3_43 : decode jdk_52_method_4_code 43 = .ok (.bastore, 1) := by decide +kernel
theorem d3_44 : decode jdk_52_method_4_code 44 = .ok (.aload_n 0, 1) := by decide +kernel
theorem d3_45 : decode jdk_52_method_4_code 45 = .ok (.iload_n 1, 1) := by decide +kernel
theorem d3_46 : decode jdk_52_method_4_code 46 = .ok (.iload_n 2, 1) := by decide +kernel
theorem d3_47 : decode jdk_52_method_4_code 47 = .ok (.getstatic 63, 3) := by decide +kernel
theorem d3_50 : decode jdk_52_method_4_code 50 = .ok (.ishr, 1) := by decide +kernel
theorem d3_51 : decode jdk_52_method_4_code 51 = .ok (.i2b, 1) := by decide +kernel
theorem d3_52 : decode jdk_52_method_4_code 52 = .ok (.bastore, 1) := by decide +kernel
theorem d3_53 : decode jdk_52_method_4_code 53 = .ok (.return_, 1) := by decide +kernel
theorem ef_putC (m : MethodId) (u : Addr) (i : Int32) (x : Int32) : entryFrame m #[(.ref u), (.int i), (.int x)] 3 = mkF m 0 #[.val (.ref u), .val (.int i), .val (.int x)] [] := by first | (simp [entryFrame, mkF, argsToLocals, Value.category]; done) | rfl
set_option maxRecDepth 65536 in
set_option maxHeartbeats 40000000 in
theorem con_putC {kn : Prop} (l : Launch) (Z : State) (a0 : Array Value) (E0 : Env0 Z a0) (O P : List Ent) (u : Addr) (vs : List Value) (i : Nat) (x : Int32) (hl : 2 * i + 1 < vs.length) (hl2 : vs.length < 2 ^ 30) :
    Con kn l Z EL0 (⟨"java/lang/StringUTF16", "putChar", "([BII)V"⟩ : MethodName) jdk_52_method_4_code 3 none [] ({ frames := 0, cells := 0, slots := 0, locals := 0 } : Room) #[.ref u, .int i.toInt32, .int x] ((u, ArrC Z .byte vs) :: O) P (fun v O' P' => v = none ∧ O' = (u, ArrC Z .byte ((vs.set (2 * i) (.int x.toInt8.toInt32)).set (2 * i + 1) (.int (x >>> ((8 : Int32) &&& 31)).toInt8.toInt32))) :: O ∧ P = P') := by
  obtain ⟨hw, hs0, hEL, hS, ⟨cs0, hC0, hcs0⟩, ⟨fv, hFv, hfv⟩, hAD, hHI, hLO, hmore⟩ := id E0
  refine con_intro (plainFor_of_name pn_0) hEL (fun m => ef_putC m _ _ _) ?_
  intro p e s m below meth c T W hnm
  refine g_getS W hAD (own_w hw 278 rfl) d3_0 (q := 3) rfl fun T W => ?_
  refine g_ifY W d3_3 (q := 28) (XT.i0_ne_t (by decide)) (by decide) (by decide) ?_
  refine g_iloadN W d3_28 (q := 29) rfl rfl ?_
  refine g_iconst W (v := (1 : Int32)) d3_29 (q := 30) rfl rfl ?_
  refine g_ishl W d3_30 (q := 31) (z := (2 * i).toInt32) (own_shl1 (by omega)) rfl ?_
  refine g_istoreN W d3_31 (q := 32) (L' := #[.val (.ref u), .val (.int (2 * i).toInt32), .val (.int x)]) rfl rfl ?_
  refine g_aloadN W d3_32 (q := 33) rfl rfl rfl ?_
  refine g_iloadN W d3_33 (q := 34) rfl rfl ?_
  refine g_iinc W d3_34 (q := 37) (z := (2 * i + 1).toInt32) (L' := #[.val (.ref u), .val (.int (2 * i + 1).toInt32), .val (.int x)]) rfl (own_succ (by omega)) rfl rfl ?_
  refine g_iloadN W d3_37 (q := 38) rfl rfl ?_
  refine g_getS W hHI (own_w hw 279 rfl) d3_38 (q := 41) rfl fun T W => ?_
  refine g_ishr W d3_41 (q := 42) (z := x) (own_shr0 x) rfl ?_
  refine g_i2b W d3_42 (q := 43) (z := (x.toInt8.toInt32)) rfl rfl ?_
  refine g_bastore W (i := 0) (ii := 2 * i) (y := x.toInt8.toInt32) rfl (own_nn (by omega)) (own_clamp (by omega)) (List.getElem?_eq_getElem (show 2 * i < vs.length by omega)) (own_narb x) d3_43 (q := 44) rfl (vs' := (vs.set (2 * i) (.int x.toInt8.toInt32))) rfl (O' := (u, ArrC Z .byte (vs.set (2 * i) (.int x.toInt8.toInt32))) :: O) rfl fun T W => ?_
  refine g_aloadN W d3_44 (q := 45) rfl rfl rfl ?_
  refine g_iloadN W d3_45 (q := 46) rfl rfl ?_
  refine g_iloadN W d3_46 (q := 47) rfl rfl ?_
  refine g_getS W hLO (own_w hw 280 rfl) d3_47 (q := 50) rfl fun T W => ?_
  refine g_ishr W d3_50 (q := 51) (z := (x >>> ((8 : Int32) &&& 31))) rfl rfl ?_
  refine g_i2b W d3_51 (q := 52) (z := ((x >>> ((8 : Int32) &&& 31)).toInt8.toInt32)) rfl rfl ?_
  refine g_bastore W (i := 0) (ii := 2 * i + 1) (y := (x >>> ((8 : Int32) &&& 31)).toInt8.toInt32) rfl (own_nn (by omega)) (own_clamp (by omega)) (List.getElem?_eq_getElem (show 2 * i + 1 < (vs.set (2 * i) (.int x.toInt8.toInt32)).length by rw [List.length_set]; omega)) (own_narb _) d3_52 (q := 53) rfl (vs' := ((vs.set (2 * i) (.int x.toInt8.toInt32)).set (2 * i + 1) (.int (x >>> ((8 : Int32) &&& 31)).toInt8.toInt32))) rfl (O' := (u, ArrC Z .byte ((vs.set (2 * i) (.int x.toInt8.toInt32)).set (2 * i + 1) (.int (x >>> ((8 : Int32) &&& 31)).toInt8.toInt32))) :: O) rfl fun T W => ?_
  exact g_retV W rfl d3_53 (Nat.le_of_ble_eq_true rfl) (Nat.le_of_ble_eq_true rfl) ⟨rfl, rfl, rfl⟩
theorem d4_0 : decode jdk_52_method_5_code 0 = .ok (.getstatic 44, 3) := by decide +kernel
theorem d4_3 : decode jdk_52_method_5_code 3 = .ok (.ifCond .ne 25, 3) := by decide +kernel
theorem d4_6 : decode jdk_52_method_5_code 6 = .ok (.iload_n 1, 1) := by decide +kernel
theorem d4_7 : decode jdk_52_method_5_code 7 = .ok (.ifCond .lt 11, 3) := by decide +kernel
theorem d4_10 : decode jdk_52_method_5_code 10 = .ok (.iload_n 1, 1) := by decide +kernel
theorem d4_11 : decode jdk_52_method_5_code 11 = .ok (.aload_n 0, 1) := by decide +kernel
theorem d4_12 : decode jdk_52_method_5_code 12 = .ok (.invokestatic 48, 3) := by decide +kernel
theorem d4_15 : decode jdk_52_method_5_code 15 = .ok (.if_icmp .lt 13, 3) := by decide +kernel
theorem d4_21 : decode jdk_52_method_5_code 21 = .ok (.dup, 1) := by decide +kernel
theorem d4_27 : decode jdk_52_method_5_code 27 = .ok (.athrow, 1) := by decide +kernel
theorem d4_28 : decode jdk_52_method_5_code 28 = .ok (.iload_n 1, 1) := by decide +kernel
theorem d4_29 : decode jdk_52_method_5_code 29 = .ok (.iconst 1, 1) := by decide +kernel
theorem d4_30 : decode jdk_52_method_5_code 30 = .ok (.ishl, 1) := by decide +kernel
theorem d4_31 : decode jdk_52_method_5_code 31 = .ok (.istore_n 1, 1) := by decide +kernel
theorem d4_32 : decode jdk_52_method_5_code 32 = .ok (.aload_n 0, 1) := by decide +kernel
theorem d4_33 : decode jdk_52_method_5_code 33 = .ok (.iload_n 1, 1) := by decide +kernel
theorem d4_34 : decode jdk_52_method_5_code 34 = .ok (.iinc 1 1, 3) := by decide +kernel
theorem d4_37 : decode jdk_52_method_5_code 37 = .ok (.baload, 1) := by decide +kernel
theorem d4_38 : decode jdk_52_method_5_code 38 = .ok (.sipush 255, 3) := by decide +kernel
theorem d4_41 : decode jdk_52_method_5_code 41 = .ok (.iand, 1) := by decide +kernel
theorem d4_42 : decode jdk_52_method_5_code 42 = .ok (.getstatic 59, 3) := by decide +kernel
theorem d4_45 : decode jdk_52_method_5_code 45 = .ok (.ishl, 1) := by decide +kernel
theorem d4_46 : decode jdk_52_method_5_code 46 = .ok (.aload_n 0, 1) := by decide +kernel
theorem d4_47 : decode jdk_52_method_5_code 47 = .ok (.iload_n 1, 1) := by decide +kernel
theorem d4_48 : decode jdk_52_method_5_code 48 = .ok (.baload, 1) := by decide +kernel
theorem d4_49 : decode jdk_52_method_5_code 49 = .ok (.sipush 255, 3) := by decide +kernel
theorem d4_52 : decode jdk_52_method_5_code 52 = .ok (.iand, 1) := by decide +kernel
theorem d4_53 : decode jdk_52_method_5_code 53 = .ok (.getstatic 63, 3) := by decide +kernel
theorem d4_56 : decode jdk_52_method_5_code 56 = .ok (.ishl, 1) := by decide +kernel
theorem d4_57 : decode jdk_52_method_5_code 57 = .ok (.ior, 1) := by decide +kernel
theorem d4_58 : decode jdk_52_method_5_code 58 = .ok (.i2c, 1) := by decide +kernel
theorem d4_59 : decode jdk_52_method_5_code 59 = .ok (.ireturn, 1) := by decide +kernel
theorem ef_getC (m : MethodId) (u : Addr) (i : Int32) : entryFrame m #[(.ref u), (.int i)] 2 = mkF m 0 #[.val (.ref u), .val (.int i)] [] := by first | (simp [entryFrame, mkF, argsToLocals, Value.category]; done) | rfl
set_option maxRecDepth 65536 in
set_option maxHeartbeats 40000000 in
theorem con_getC {kn : Prop} (l : Launch) (Z : State) (a0 : Array Value) (E0 : Env0 Z a0) (O P : List Ent) (u : Addr) (cs : List Int32) (i : Nat) (ch : Int32) (hlen : cs.length ≤ 60000) (hi : cs[i]? = some ch) (hch : 0 ≤ ch.toInt ∧ ch.toInt < 65536) :
    Con kn l Z EL0 (⟨"java/lang/StringUTF16", "getChar", "([BI)C"⟩ : MethodName) jdk_52_method_5_code 2 (some .char) [] ({ frames := 0, cells := 0, slots := 0, locals := 0 } : Room) #[.ref u, .int i.toInt32] ((u, ArrC Z .byte (enc16 cs)) :: O) P (fun v O' P' => v = some (.int ch) ∧ ((u, ArrC Z .byte (enc16 cs)) :: O) = O' ∧ P = P') := by
  obtain ⟨hw, hs0, hEL, hS, ⟨cs0, hC0, hcs0⟩, ⟨fv, hFv, hfv⟩, hAD, hHI, hLO, hmore⟩ := id E0
  refine con_intro (plainFor_of_name pn_0) hEL (fun m => ef_getC m _ _) ?_
  intro p e s m below meth c T W hnm
  have hil : i < cs.length := (List.getElem?_eq_some_iff.mp hi).1
  refine g_getS W hAD (own_w hw 278 rfl) d4_0 (q := 3) rfl fun T W => ?_
  refine g_ifY W d4_3 (q := 28) (XT.i0_ne_t (by decide)) (by decide) (by decide) ?_
  refine g_iloadN W d4_28 (q := 29) rfl rfl ?_
  refine g_iconst W (v := (1 : Int32)) d4_29 (q := 30) rfl rfl ?_
  refine g_ishl W d4_30 (q := 31) (z := (2 * i).toInt32) (own_shl1 (by omega)) rfl ?_
  refine g_istoreN W d4_31 (q := 32) (L' := #[.val (.ref u), .val (.int (2 * i).toInt32)]) rfl rfl ?_
  refine g_aloadN W d4_32 (q := 33) rfl rfl rfl ?_
  refine g_iloadN W d4_33 (q := 34) rfl rfl ?_
  refine g_iinc W d4_34 (q := 37) (z := (2 * i + 1).toInt32) (L' := #[.val (.ref u), .val (.int (2 * i + 1).toInt32)]) rfl (own_succ (by omega)) rfl rfl ?_
  refine g_baload W (W.ow (i := 0) rfl) (own_nn (by omega)) (i := 2 * i) (own_clamp (by omega)) (v := .int ch.toInt8.toInt32) (enc16_at hi).1 d4_37 (q := 38) rfl ?_
  refine g_sipush W (v := (255 : Int32)) d4_38 (q := 41) rfl rfl ?_
  refine g_iand W d4_41 (q := 42) (z := (ch.toInt8.toInt32 &&& (255 : Int32))) rfl rfl ?_
  refine g_getS W hHI (own_w hw 279 rfl) d4_42 (q := 45) rfl fun T W => ?_
  refine g_ishl W d4_45 (q := 46) (z := ((ch.toInt8.toInt32 &&& (255 : Int32)) <<< ((0 : Int32) &&& 31))) rfl rfl ?_
  refine g_aloadN W d4_46 (q := 47) rfl rfl rfl ?_
  refine g_iloadN W d4_47 (q := 48) rfl rfl ?_
  refine g_baload W (W.ow (i := 0) rfl) (own_nn (by omega)) (i := 2 * i + 1) (own_clamp (by omega)) (v := .int (ch >>> ((8 : Int32) &&& 31)).toInt8.toInt32) (enc16_at hi).2 d4_48 (q := 49) rfl ?_
  refine g_sipush W (v := (255 : Int32)) d4_49 (q := 52) rfl rfl ?_
  refine g_iand W d4_52 (q := 53) (z := ((ch >>> ((8 : Int32) &&& 31)).toInt8.toInt32 &&& (255 : Int32))) rfl rfl ?_
  refine g_getS W hLO (own_w hw 280 rfl) d4_53 (q := 56) rfl fun T W => ?_
  refine g_ishl W d4_56 (q := 57) (z := (((ch >>> ((8 : Int32) &&& 31)).toInt8.toInt32 &&& (255 : Int32)) <<< ((8 : Int32) &&& 31))) rfl rfl ?_
  refine g_ior W d4_57 (q := 58) (z := ch) (own_get16 hch) rfl ?_
  refine g_i2c W d4_58 (q := 59) (z := ch) (own_chr hch) rfl ?_
  exact g_retI W rfl (Or.inr (Or.inr (Or.inr (Or.inl rfl)))) (own_narcR hch) d4_59 (Nat.le_of_ble_eq_true rfl) (Nat.le_of_ble_eq_true rfl) ⟨rfl, rfl, rfl⟩
set_option maxRecDepth 65536 in
set_option maxHeartbeats 40000000 in
theorem con_getR {kn : Prop} (l : Launch) (Z : State) (a0 : Array Value) (E0 : Env0 Z a0) (O P : List Ent) (u : Addr) (cs : List Int32) (i : Nat) (ch : Int32) (hlen : cs.length ≤ 60000) (hi : cs[i]? = some ch) (hch : 0 ≤ ch.toInt ∧ ch.toInt < 65536) (hu : (u, ArrC Z .byte (enc16 cs)) ∈ P) :
    Con kn l Z EL0 (⟨"java/lang/StringUTF16", "getChar", "([BI)C"⟩ : MethodName) jdk_52_method_5_code 2 (some .char) [] ({ frames := 0, cells := 0, slots := 0, locals := 0 } : Room) #[.ref u, .int i.toInt32] O P (fun v O' P' => v = some (.int ch) ∧ O = O' ∧ P = P') := by
  obtain ⟨hw, hs0, hEL, hS, ⟨cs0, hC0, hcs0⟩, ⟨fv, hFv, hfv⟩, hAD, hHI, hLO, hmore⟩ := id E0
  refine con_intro (plainFor_of_name pn_0) hEL (fun m => ef_getC m _ _) ?_
  intro p e s m below meth c T W hnm
  have hil : i < cs.length := (List.getElem?_eq_some_iff.mp hi).1
  refine g_getS W hAD (own_w hw 278 rfl) d4_0 (q := 3) rfl fun T W => ?_
  refine g_ifY W d4_3 (q := 28) (XT.i0_ne_t (by decide)) (by decide) (by decide) ?_
  refine g_iloadN W d4_28 (q := 29) rfl rfl ?_
  refine g_iconst W (v := (1 : Int32)) d4_29 (q := 30) rfl rfl ?_
  refine g_ishl W d4_30 (q := 31) (z := (2 * i).toInt32) (own_shl1 (by omega)) rfl ?_
  refine g_istoreN W d4_31 (q := 32) (L' := #[.val (.ref u), .val (.int (2 * i).toInt32)]) rfl rfl ?_
  refine g_aloadN W d4_32 (q := 33) rfl rfl rfl ?_
  refine g_iloadN W d4_33 (q := 34) rfl rfl ?_
  refine g_iinc W d4_34 (q := 37) (z := (2 * i + 1).toInt32) (L' := #[.val (.ref u), .val (.int (2 * i + 1).toInt32)]) rfl (own_succ (by omega)) rfl rfl ?_
  refine g_baload W (W.rd hu) (own_nn (by omega)) (i := 2 * i) (own_clamp (by omega)) (v := .int ch.toInt8.toInt32) (enc16_at hi).1 d4_37 (q := 38) rfl ?_
  refine g_sipush W (v := (255 : Int32)) d4_38 (q := 41) rfl rfl ?_
  refine g_iand W d4_41 (q := 42) (z := (ch.toInt8.toInt32 &&& (255 : Int32))) rfl rfl ?_
  refine g_getS W hHI (own_w hw 279 rfl) d4_42 (q := 45) rfl fun T W => ?_
  refine g_ishl W d4_45 (q := 46) (z := ((ch.toInt8.toInt32 &&& (255 : Int32)) <<< ((0 : Int32) &&& 31))) rfl rfl ?_
  refine g_aloadN W d4_46 (q := 47) rfl rfl rfl ?_
  refine g_iloadN W d4_47 (q := 48) rfl rfl ?_
  refine g_baload W (W.rd hu) (own_nn (by omega)) (i := 2 * i + 1) (own_clamp (by omega)) (v := .int (ch >>> ((8 : Int32) &&& 31)).toInt8.toInt32) (enc16_at hi).2 d4_48 (q := 49) rfl ?_
  refine g_sipush W (v := (255 : Int32)) d4_49 (q := 52) rfl rfl ?_
  refine g_iand W d4_52 (q := 53) (z := ((ch >>> ((8 : Int32) &&& 31)).toInt8.toInt32 &&& (255 : Int32))) rfl rfl ?_
  refine g_getS W hLO (own_w hw 280 rfl) d4_53 (q := 56) rfl fun T W => ?_
  refine g_ishl W d4_56 (q := 57) (z := (((ch >>> ((8 : Int32) &&& 31)).toInt8.toInt32 &&& (255 : Int32)) <<< ((8 : Int32) &&& 31))) rfl rfl ?_
  refine g_ior W d4_57 (q := 58) (z := ch) (own_get16 hch) rfl ?_
  refine g_i2c W d4_58 (q := 59) (z := ch) (own_chr hch) rfl ?_
  exact g_retI W rfl (Or.inr (Or.inr (Or.inr (Or.inl rfl)))) (own_narcR hch) d4_59 (Nat.le_of_ble_eq_true rfl) (Nat.le_of_ble_eq_true rfl) ⟨rfl, rfl, rfl⟩
theorem d5_0 : decode jdk_52_method_14_code 0 = .ok (.iload_n 2, 1) := by decide +kernel
theorem d5_1 : decode jdk_52_method_14_code 1 = .ok (.invokestatic 107, 3) := by decide +kernel
theorem d5_4 : decode jdk_52_method_14_code 4 = .ok (.astore_n 3, 1) := by decide +kernel
theorem d5_5 : decode jdk_52_method_14_code 5 = .ok (.iconst 0, 1) := by decide +kernel
theorem d5_6 : decode jdk_52_method_14_code 6 = .ok (.istore 4, 2) := by decide +kernel
theorem d5_8 : decode jdk_52_method_14_code 8 = .ok (.iload 4, 2) := by decide +kernel
theorem d5_10 : decode jdk_52_method_14_code 10 = .ok (.iload_n 2, 1) := by decide +kernel
theorem d5_11 : decode jdk_52_method_14_code 11 = .ok (.if_icmp .ge 21, 3) := by decide +kernel
theorem d5_14 : decode jdk_52_method_14_code 14 = .ok (.aload_n 3, 1) := by decide +kernel
theorem d5_15 : decode jdk_52_method_14_code 15 = .ok (.iload 4, 2) := by decide +kernel
theorem d5_17 : decode jdk_52_method_14_code 17 = .ok (.aload_n 0, 1) := by decide +kernel
theorem d5_18 : decode jdk_52_method_14_code 18 = .ok (.iload_n 1, 1) := by decide +kernel
theorem d5_19 : decode jdk_52_method_14_code 19 = .ok (.caload, 1) := by decide +kernel
theorem d5_20 : decode jdk_52_method_14_code 20 = .ok (.invokestatic 111, 3) := by decide +kernel
theorem d5_23 : decode jdk_52_method_14_code 23 = .ok (.iinc 1 1, 3) := by decide +kernel
theorem d5_26 : decode jdk_52_method_14_code 26 = .ok (.iinc 4 1, 3) := by decide +kernel
theorem d5_29 : decode jdk_52_method_14_code 29 = .ok (.goto (-21), 3) := by decide +kernel
theorem d5_32 : decode jdk_52_method_14_code 32 = .ok (.aload_n 3, 1) := by decide +kernel
theorem d5_33 : decode jdk_52_method_14_code 33 = .ok (.areturn, 1) := by decide +kernel
theorem pd_1 : parseMethodDescriptor "([BII)V" = some ⟨[(.array .byte), .int, .int], none⟩ := by decide +kernel
set_option maxRecDepth 65536 in
set_option maxHeartbeats 40000000 in
theorem tb_loop {kn : Prop} {p : Program} {l : Launch} {e : Env} {s : State} {m : MethodId} {args : Array Value} {below : List Frame} {meth : Method} {c : Code} {Z : State} {a0 : Array Value} {P : List Ent} (E0 : Env0 Z a0) {O : List Ent} {a u : Addr} {cs : List Int32} {N : Nat} {Q : Option Value → List Ent → List Ent → Prop} (hlen : cs.length ≤ 60000) (hP : (a, ArrC Z .char (cs.map .int)) ∈ P) {k n : Nat} (hk : k ≤ 1) (hn : n ≤ 2 * N) (hQ : Q (some (.ref u)) ((u, ArrC Z .byte (enc16 cs)) :: O) P) : ∀ (j i : Nat), i + j = cs.length → ∀ (T : State),
    Wk kn p l e ({ frames := 2, cells := 1, slots := 2 * N, locals := 32 } : Room) s m args below meth c jdk_52_method_14_code 5 (some (.array .byte)) Z a0 EL0 "java/lang/StringUTF16" T ((u, ArrC Z .byte (fill16 cs i)) :: O) P k n → Go p e below s ({ frames := 2, cells := 1, slots := 2 * N, locals := 32 } : Room) Z EL0 Q T (mkF m 8 #[.val (.ref a), .val (.int i.toInt32), .val (.int cs.length.toInt32), .val (.ref u), .val (.int i.toInt32)] []) := by
  obtain ⟨hw, hs0, hEL, hS, ⟨cs0, hC0, hcs0⟩, ⟨fv, hFv, hfv⟩, hAD, hHI, hLO, hmore⟩ := id E0
  intro j
  induction j with
  | zero =>
    intro i hi T W
    have e : i = cs.length := by omega
    subst e
    rw [fill16, List.take_length, Nat.sub_self, Nat.mul_zero, List.replicate_zero, List.append_nil] at W
    refine g_iload W d5_8 (q := 10) rfl rfl ?_
    refine g_iloadN W d5_10 (q := 11) rfl rfl ?_
    refine g_icY W d5_11 (q := 32) (XT.ii_ge_t (fun z => absurd ((own_lt (by omega) (by omega)).mp z) (Nat.lt_irrefl _))) (by decide) (by decide) ?_
    refine g_aloadN W d5_32 (q := 33) rfl rfl rfl ?_
    exact g_retA W rfl rfl rfl d5_33 hk hn hQ
  | succ j ih =>
    intro i hi T W
    have hil : i < cs.length := by omega
    obtain ⟨d, hd⟩ : ∃ d, cs[i]? = some d := ⟨_, List.getElem?_eq_getElem hil⟩
    refine g_iload W d5_8 (q := 10) rfl rfl ?_
    refine g_iloadN W d5_10 (q := 11) rfl rfl ?_
    refine g_icN W d5_11 (q := 14) (XT.ii_ge_f ((own_lt (by omega) (by omega)).mpr hil)) rfl ?_
    refine g_aloadN W d5_14 (q := 15) rfl rfl rfl ?_
    refine g_iload W d5_15 (q := 17) rfl rfl ?_
    refine g_aloadN W d5_17 (q := 18) rfl rfl rfl ?_
    refine g_iloadN W d5_18 (q := 19) rfl rfl ?_
    refine g_caload W (W.rd hP) (own_nn (by omega)) (i := i) (own_clamp (by omega)) (v := .int d) (by rw [List.getElem?_map, hd]; rfl) d5_19 (q := 20) rfl ?_
    refine g_static W (con_putC l Z a0 E0 O P u (fill16 cs i) i d (by rw [fill16_len (by omega)]; omega) (by rw [fill16_len (by omega)]; omega)) (argsL := [(.ref u), (.int i.toInt32), (.int d)]) (rest := []) rfl rfl pd_1 rfl (own_w hw 275 rfl) (own_w hw 276 rfl) (own_w hw 18 rfl) (own_w hw 277 rfl) (by decide) d5_20 (q := 23) rfl rfl (Nat.le_of_ble_eq_true rfl) (Nat.le_of_ble_eq_true rfl) hk hn ?_
    rintro _ _ _ T ⟨rfl, rfl, rfl⟩ W
    rw [fill16_step hd] at W
    refine g_iinc W d5_23 (q := 26) (z := (i + 1).toInt32) (L' := #[.val (.ref a), .val (.int (i + 1).toInt32), .val (.int cs.length.toInt32), .val (.ref u), .val (.int i.toInt32)]) rfl (own_succ (by omega)) rfl rfl ?_
    refine g_iinc W d5_26 (q := 29) (z := (i + 1).toInt32) (L' := #[.val (.ref a), .val (.int (i + 1).toInt32), .val (.int cs.length.toInt32), .val (.ref u), .val (.int (i + 1).toInt32)]) rfl (own_succ (by omega)) rfl rfl ?_
    refine g_goto W d5_29 (q := 8) (by decide) (by decide) ?_
    exact ih (i + 1) (by omega) T W
theorem ef_tb (m : MethodId) (a : Addr) (i : Int32) (j : Int32) : entryFrame m #[(.ref a), (.int i), (.int j)] 5 = mkF m 0 #[.val (.ref a), .val (.int i), .val (.int j), .unset, .unset] [] := by first | (simp [entryFrame, mkF, argsToLocals, Value.category]; done) | rfl
theorem pd_2 : parseMethodDescriptor "(I)[B" = some ⟨[.int], (some (.array .byte))⟩ := by decide +kernel
set_option maxRecDepth 65536 in
set_option maxHeartbeats 40000000 in
theorem con_tb {kn : Prop} (l : Launch) (Z : State) (a0 : Array Value) (E0 : Env0 Z a0) (O P : List Ent) (a : Addr) (cs : List Int32) (N : Nat) (hN : cs.length ≤ N) (hN2 : N ≤ 60000) (hP : (a, ArrC Z .char (cs.map .int)) ∈ P) :
    Con kn l Z EL0 (⟨"java/lang/StringUTF16", "toBytes", "([CII)[B"⟩ : MethodName) jdk_52_method_14_code 5 (some (.array .byte)) [] ({ frames := 2, cells := 1, slots := 2 * N, locals := 32 } : Room) #[.ref a, .int (0 : Int32), .int cs.length.toInt32] O P (fun v O' P' => ∃ u, v = some (.ref u) ∧ O' = (u, ArrC Z .byte (enc16 cs)) :: O ∧ P = P') := by
  obtain ⟨hw, hs0, hEL, hS, ⟨cs0, hC0, hcs0⟩, ⟨fv, hFv, hfv⟩, hAD, hHI, hLO, hmore⟩ := id E0
  refine con_intro (plainFor_of_name pn_0) hEL (fun m => ef_tb m _ _ _) ?_
  intro p e s m below meth c T W hnm
  refine g_iloadN W d5_0 (q := 1) rfl rfl ?_
  refine g_static W (con_nbf l Z a0 E0 O P cs.length N hN hN2) (argsL := [(.int cs.length.toInt32)]) (rest := []) rfl rfl pd_2 rfl (own_w hw 268 rfl) (own_w hw 269 rfl) (own_w hw 18 rfl) (own_w hw 270 rfl) (by decide) d5_1 (q := 4) rfl rfl (Nat.le_of_ble_eq_true rfl) (Nat.le_of_ble_eq_true rfl) (Nat.le_of_ble_eq_true rfl) (by dsimp only; omega) ?_
  rintro _ _ _ T ⟨u, rfl, rfl, rfl⟩ W
  refine g_astoreN W d5_4 (q := 5) (L' := #[.val (.ref a), .val (.int (0 : Int32)), .val (.int cs.length.toInt32), .val (.ref u), .unset]) rfl rfl rfl ?_
  refine g_iconst W (v := (0 : Int32)) d5_5 (q := 6) rfl rfl ?_
  refine g_istore W d5_6 (q := 8) (L' := #[.val (.ref a), .val (.int (0 : Int32)), .val (.int cs.length.toInt32), .val (.ref u), .val (.int (0 : Int32))]) rfl rfl ?_
  exact tb_loop E0 (by omega) hP (Nat.le_of_ble_eq_true rfl) (by dsimp only; omega) ⟨u, rfl, rfl, rfl⟩ cs.length 0 (Nat.zero_add _) T W
theorem d6_0 : decode jdk_52_method_16_code 0 = .ok (.iload_n 2, 1) := by decide +kernel
theorem d6_1 : decode jdk_52_method_16_code 1 = .ok (.newarray .byte, 2) := by decide +kernel
theorem d6_3 : decode jdk_52_method_16_code 3 = .ok (.astore_n 3, 1) := by decide +kernel
theorem d6_4 : decode jdk_52_method_16_code 4 = .ok (.aload_n 0, 1) := by decide +kernel
theorem d6_5 : decode jdk_52_method_16_code 5 = .ok (.iload_n 1, 1) := by decide +kernel
theorem d6_6 : decode jdk_52_method_16_code 6 = .ok (.aload_n 3, 1) := by decide +kernel
theorem d6_7 : decode jdk_52_method_16_code 7 = .ok (.iconst 0, 1) := by decide +kernel
theorem d6_8 : decode jdk_52_method_16_code 8 = .ok (.iload_n 2, 1) := by decide +kernel
theorem d6_9 : decode jdk_52_method_16_code 9 = .ok (.invokestatic 115, 3) := by decide +kernel
theorem d6_12 : decode jdk_52_method_16_code 12 = .ok (.istore 4, 2) := by decide +kernel
theorem d6_14 : decode jdk_52_method_16_code 14 = .ok (.iload 4, 2) := by decide +kernel
theorem d6_16 : decode jdk_52_method_16_code 16 = .ok (.iload_n 2, 1) := by decide +kernel
theorem d6_17 : decode jdk_52_method_16_code 17 = .ok (.if_icmp .eq 40, 3) := by decide +kernel
theorem d6_20 : decode jdk_52_method_16_code 20 = .ok (.aload_n 0, 1) := by decide +kernel
theorem d6_21 : decode jdk_52_method_16_code 21 = .ok (.iload_n 1, 1) := by decide +kernel
theorem d6_22 : decode jdk_52_method_16_code 22 = .ok (.iload_n 2, 1) := by decide +kernel
theorem d6_23 : decode jdk_52_method_16_code 23 = .ok (.invokestatic 119, 3) := by decide +kernel
theorem d6_26 : decode jdk_52_method_16_code 26 = .ok (.astore 5, 2) := by decide +kernel
theorem d6_28 : decode jdk_52_method_16_code 28 = .ok (.aload 5, 2) := by decide +kernel
theorem d6_30 : decode jdk_52_method_16_code 30 = .ok (.iload 4, 2) := by decide +kernel
theorem d6_32 : decode jdk_52_method_16_code 32 = .ok (.invokestatic 71, 3) := by decide +kernel
theorem d6_35 : decode jdk_52_method_16_code 35 = .ok (.sipush 255, 3) := by decide +kernel
theorem d6_38 : decode jdk_52_method_16_code 38 = .ok (.if_icmp .gt 16, 3) := by decide +kernel
theorem d6_41 : decode jdk_52_method_16_code 41 = .ok (.aload 5, 2) := by decide +kernel
theorem d6_43 : decode jdk_52_method_16_code 43 = .ok (.iconst 0, 1) := by decide +kernel
theorem d6_44 : decode jdk_52_method_16_code 44 = .ok (.aload_n 3, 1) := by decide +kernel
theorem d6_45 : decode jdk_52_method_16_code 45 = .ok (.iconst 0, 1) := by decide +kernel
theorem d6_46 : decode jdk_52_method_16_code 46 = .ok (.iload_n 2, 1) := by decide +kernel
theorem d6_50 : decode jdk_52_method_16_code 50 = .ok (.iload_n 2, 1) := by decide +kernel
theorem d6_51 : decode jdk_52_method_16_code 51 = .ok (.if_icmp .eq 6, 3) := by decide +kernel
theorem d6_54 : decode jdk_52_method_16_code 54 = .ok (.aload 5, 2) := by decide +kernel
theorem d6_56 : decode jdk_52_method_16_code 56 = .ok (.areturn, 1) := by decide +kernel
theorem d6_57 : decode jdk_52_method_16_code 57 = .ok (.aload_n 3, 1) := by decide +kernel
theorem d6_58 : decode jdk_52_method_16_code 58 = .ok (.areturn, 1) := by decide +kernel
theorem ef_comp2 (m : MethodId) (a : Addr) (i1 : Int32) (i3 : Int32) : entryFrame m #[(.ref a), (.int i1), (.int i3)] 6 = mkF m 0 #[.val (.ref a), .val (.int i1), .val (.int i3), .unset, .unset, .unset] [] := by first | (simp [entryFrame, mkF, argsToLocals, Value.category]; done) | rfl
theorem pd_3 : parseMethodDescriptor "([CI[BII)I" = some ⟨[(.array .char), .int, (.array .byte), .int, .int], (some .int)⟩ := by decide +kernel
theorem pd_4 : parseMethodDescriptor "([CII)[B" = some ⟨[(.array .char), .int, .int], (some (.array .byte))⟩ := by decide +kernel
theorem pd_5 : parseMethodDescriptor "([BI)C" = some ⟨[(.array .byte), .int], (some .char)⟩ := by decide +kernel
set_option maxRecDepth 65536 in
set_option maxHeartbeats 40000000 in
theorem con_comp2 {kn : Prop} (l : Launch) (Z : State) (a0 : Array Value) (E0 : Env0 Z a0) (O P : List Ent) (a : Addr) (cs : List Int32) (N : Nat) (hN : cs.length ≤ N) (hN2 : N ≤ 60000) (hr : ∀ d ∈ cs, 0 ≤ d.toInt ∧ d.toInt < 65536) (hP : (a, ArrC Z .char (cs.map .int)) ∈ P) :
    Con kn l Z EL0 (⟨"java/lang/StringUTF16", "compress", "([CII)[B"⟩ : MethodName) jdk_52_method_16_code 6 (some (.array .byte)) [] ({ frames := 3, cells := 2, slots := 3 * N, locals := 48 } : Room) #[.ref a, .int (0 : Int32), .int cs.length.toInt32] O P (fun v O' P' => ∃ b, v = some (.ref b) ∧ P = P' ∧ ((Lat cs ∧ O' = (b, ArrC Z .byte (enc cs)) :: O) ∨ (¬ Lat cs ∧ O' = (b, ArrC Z .byte (enc16 cs)) :: O))) := by
  obtain ⟨hw, hs0, hEL, hS, ⟨cs0, hC0, hcs0⟩, ⟨fv, hFv, hfv⟩, hAD, hHI, hLO, hmore⟩ := id E0
  refine con_intro (plainFor_of_name pn_0) hEL (fun m => ef_comp2 m _ _ _) ?_
  intro p e s m below meth c T W hnm
  refine g_iloadN W d6_0 (q := 1) rfl rfl ?_
  have hlen : cs.length < 2 ^ 31 := by omega
  refine g_newA W (ty := .byte) (cap := N) (vs := List.replicate cs.length (.int 0)) rfl (own_w hw 20 rfl) (own_nn hlen) (by rw [own_clamp hlen]; exact hN) (by omega) rfl (by rw [own_clamp hlen]; rfl) d6_1 (q := 3) rfl (Nat.le_of_ble_eq_true rfl) (by dsimp only; omega) fun b T W => ?_
  refine g_astoreN W d6_3 (q := 4) (L' := #[.val (.ref a), .val (.int (0 : Int32)), .val (.int cs.length.toInt32), .val (.ref b), .unset, .unset]) rfl rfl rfl ?_
  refine g_aloadN W d6_4 (q := 5) rfl rfl rfl ?_
  refine g_iloadN W d6_5 (q := 6) rfl rfl ?_
  refine g_aloadN W d6_6 (q := 7) rfl rfl rfl ?_
  refine g_iconst W (v := (0 : Int32)) d6_7 (q := 8) rfl rfl ?_
  refine g_iloadN W d6_8 (q := 9) rfl rfl ?_
  refine g_static W (con_comp1 l Z a0 E0 O P a b cs hlen hP) (argsL := [(.ref a), (.int (0 : Int32)), (.ref b), (.int (0 : Int32)), (.int cs.length.toInt32)]) (rest := []) rfl rfl pd_3 rfl (own_w hw 21 rfl) (own_w hw 22 rfl) (own_w hw 18 rfl) (own_w hw 23 rfl) (by decide) d6_9 (q := 12) rfl rfl (Nat.le_of_ble_eq_true rfl) (Nat.le_of_ble_eq_true rfl) (Nat.le_of_ble_eq_true rfl) (by dsimp only; omega) ?_
  rintro _ _ _ T ⟨rfl, hcmp⟩ W
  rcases hcmp with ⟨hlat, rfl, rfl⟩ | ⟨i, d, bs, hd, hgt, rfl, rfl⟩
  · refine g_istore W d6_12 (q := 14) (L' := #[.val (.ref a), .val (.int (0 : Int32)), .val (.int cs.length.toInt32), .val (.ref b), .val (.int cs.length.toInt32), .unset]) rfl rfl ?_
    refine g_iload W d6_14 (q := 16) rfl rfl ?_
    refine g_iloadN W d6_16 (q := 17) rfl rfl ?_
    refine g_icY W d6_17 (q := 57) (XT.ii_eq_t rfl) (by decide) (by decide) ?_
    refine g_aloadN W d6_57 (q := 58) rfl rfl rfl ?_
    exact g_retA W rfl rfl rfl d6_58 (Nat.le_of_ble_eq_true rfl) (by dsimp only; omega) ⟨b, rfl, rfl, Or.inl ⟨hlat, rfl⟩⟩
  · have hil : i < cs.length := (List.getElem?_eq_some_iff.mp hd).1
    refine g_istore W d6_12 (q := 14) (L' := #[.val (.ref a), .val (.int (0 : Int32)), .val (.int cs.length.toInt32), .val (.ref b), .val (.int i.toInt32), .unset]) rfl rfl ?_
    refine g_iload W d6_14 (q := 16) rfl rfl ?_
    refine g_iloadN W d6_16 (q := 17) rfl rfl ?_
    refine g_icN W d6_17 (q := 20) (XT.ii_eq_f (fun z => absurd ((own_eq (by omega) hlen).mp z) (by omega))) rfl ?_
    refine g_aloadN W d6_20 (q := 21) rfl rfl rfl ?_
    refine g_iloadN W d6_21 (q := 22) rfl rfl ?_
    refine g_iloadN W d6_22 (q := 23) rfl rfl ?_
    refine g_static W (con_tb l Z a0 E0 _ P a cs N hN hN2 hP) (argsL := [(.ref a), (.int (0 : Int32)), (.int cs.length.toInt32)]) (rest := []) rfl rfl pd_4 rfl (own_w hw 265 rfl) (own_w hw 266 rfl) (own_w hw 18 rfl) (own_w hw 267 rfl) (by decide) d6_23 (q := 26) rfl rfl (Nat.le_of_ble_eq_true rfl) (Nat.le_of_ble_eq_true rfl) (Nat.le_of_ble_eq_true rfl) (by dsimp only; omega) ?_
    rintro _ _ _ T ⟨u, rfl, rfl, rfl⟩ W
    refine g_astore W d6_26 (q := 28) (L' := #[.val (.ref a), .val (.int (0 : Int32)), .val (.int cs.length.toInt32), .val (.ref b), .val (.int i.toInt32), .val (.ref u)]) rfl rfl rfl ?_
    refine g_aload W d6_28 (q := 30) rfl rfl rfl ?_
    refine g_iload W d6_30 (q := 32) rfl rfl ?_
    refine g_static W (con_getC l Z a0 E0 _ P u cs i d (by omega) hd (hr _ (List.mem_of_getElem? hd))) (argsL := [(.ref u), (.int i.toInt32)]) (rest := []) rfl rfl pd_5 rfl (own_w hw 281 rfl) (own_w hw 282 rfl) (own_w hw 18 rfl) (own_w hw 283 rfl) (by decide) d6_32 (q := 35) rfl rfl (Nat.le_of_ble_eq_true rfl) (Nat.le_of_ble_eq_true rfl) (Nat.le_of_ble_eq_true rfl) (by dsimp only; omega) ?_
    rintro _ _ _ T ⟨rfl, rfl, rfl⟩ W
    refine g_sipush W (v := (255 : Int32)) d6_35 (q := 38) rfl rfl ?_
    refine g_icY W d6_38 (q := 54) (XT.ii_gt_t hgt) (by decide) (by decide) ?_
    refine g_aload W d6_54 (q := 56) rfl rfl rfl ?_
    have W := W.drop 1
    exact g_retA W rfl rfl rfl d6_56 (Nat.le_of_ble_eq_true rfl) (by dsimp only; omega) ⟨u, rfl, rfl, Or.inr ⟨fun h => h i d hd hgt, rfl⟩⟩
theorem d7_0 : decode jdk_52_method_15_code 0 = .ok (.iload_n 1, 1) := by decide +kernel
theorem d7_1 : decode jdk_52_method_15_code 1 = .ok (.aload_n 0, 1) := by decide +kernel
theorem d7_2 : decode jdk_52_method_15_code 2 = .ok (.arraylength, 1) := by decide +kernel
theorem d7_3 : decode jdk_52_method_15_code 3 = .ok (.isub, 1) := by decide +kernel
theorem d7_4 : decode jdk_52_method_15_code 4 = .ok (.bipush 31, 2) := by decide +kernel
theorem d7_6 : decode jdk_52_method_15_code 6 = .ok (.iushr, 1) := by decide +kernel
theorem d7_7 : decode jdk_52_method_15_code 7 = .ok (.i2b, 1) := by decide +kernel
theorem d7_8 : decode jdk_52_method_15_code 8 = .ok (.ireturn, 1) := by decide +kernel
theorem ef_cfal (m : MethodId) (a : Addr) (i1 : Int32) : entryFrame m #[(.ref a), (.int i1)] 2 = mkF m 0 #[.val (.ref a), .val (.int i1)] [] := by first | (simp [entryFrame, mkF, argsToLocals, Value.category]; done) | rfl
set_option maxRecDepth 65536 in
set_option maxHeartbeats 40000000 in
theorem con_cfal {kn : Prop} (l : Launch) (Z : State) (a0 : Array Value) (E0 : Env0 Z a0) (O P : List Ent) (b : Addr) (bs : List Value) (zn z : Int32) (hz : (XT.ushr (zn - bs.length.toInt32) 31).toInt8.toInt32 = z) :
    Con kn l Z EL0 (⟨"java/lang/StringUTF16", "coderFromArrayLen", "([BI)B"⟩ : MethodName) jdk_52_method_15_code 2 (some .byte) [] ({ frames := 0, cells := 0, slots := 0, locals := 0 } : Room) #[.ref b, .int zn] ((b, ArrC Z .byte bs) :: O) P (fun v O' P' => v = some (.int z) ∧ O' = (b, ArrC Z .byte bs) :: O ∧ P = P') := by
  obtain ⟨hw, hs0, hEL, hS, ⟨cs0, hC0, hcs0⟩, ⟨fv, hFv, hfv⟩, hAD, hHI, hLO, hmore⟩ := id E0
  refine con_intro (plainFor_of_name pn_0) hEL (fun m => ef_cfal m _ _) ?_
  intro p e s m below meth c T W hnm
  refine g_iloadN W d7_0 (q := 1) rfl rfl ?_
  refine g_aloadN W d7_1 (q := 2) rfl rfl rfl ?_
  refine g_len W (W.ow (i := 0) rfl) (z := bs.length.toInt32) rfl d7_2 (q := 3) rfl ?_
  refine g_isub W d7_3 (q := 4) (z := (zn - bs.length.toInt32)) rfl rfl ?_
  refine g_bipush W (v := (31 : Int32)) d7_4 (q := 6) rfl rfl ?_
  refine g_iushr W d7_6 (q := 7) (z := (XT.ushr (zn - bs.length.toInt32) (31 : Int32))) rfl rfl ?_
  refine g_i2b W d7_7 (q := 8) (z := z) hz rfl ?_
  exact g_retI W rfl (Or.inr (Or.inr (Or.inl rfl))) (by rw [← hz]; exact XT.narrow_b _) d7_8 (Nat.le_of_ble_eq_true rfl) (Nat.le_of_ble_eq_true rfl) ⟨rfl, rfl, rfl⟩
theorem d8_0 : decode jdk_42_method_149_code 0 = .ok (.aload_n 0, 1) := by decide +kernel
theorem d8_1 : decode jdk_42_method_149_code 1 = .ok (.invokespecial 1, 3) := by decide +kernel
theorem d8_4 : decode jdk_42_method_149_code 4 = .ok (.iload_n 3, 1) := by decide +kernel
theorem d8_5 : decode jdk_42_method_149_code 5 = .ok (.ifCond .ne 22, 3) := by decide +kernel
theorem d8_8 : decode jdk_42_method_149_code 8 = .ok (.aload_n 0, 1) := by decide +kernel
theorem d8_11 : decode jdk_42_method_149_code 11 = .ok (.getfield 9, 3) := by decide +kernel
theorem d8_14 : decode jdk_42_method_149_code 14 = .ok (.putfield 9, 3) := by decide +kernel
theorem d8_17 : decode jdk_42_method_149_code 17 = .ok (.aload_n 0, 1) := by decide +kernel
theorem d8_20 : decode jdk_42_method_149_code 20 = .ok (.getfield 15, 3) := by decide +kernel
theorem d8_23 : decode jdk_42_method_149_code 23 = .ok (.putfield 15, 3) := by decide +kernel
theorem d8_26 : decode jdk_42_method_149_code 26 = .ok (.return_, 1) := by decide +kernel
theorem d8_27 : decode jdk_42_method_149_code 27 = .ok (.getstatic 38, 3) := by decide +kernel
theorem d8_30 : decode jdk_42_method_149_code 30 = .ok (.ifCond .eq 28, 3) := by decide +kernel
theorem d8_33 : decode jdk_42_method_149_code 33 = .ok (.aload_n 1, 1) := by decide +kernel
theorem d8_34 : decode jdk_42_method_149_code 34 = .ok (.iload_n 2, 1) := by decide +kernel
theorem d8_35 : decode jdk_42_method_149_code 35 = .ok (.iload_n 3, 1) := by decide +kernel
theorem d8_36 : decode jdk_42_method_149_code 36 = .ok (.invokestatic 177, 3) := by decide +kernel
theorem d8_39 : decode jdk_42_method_149_code 39 = .ok (.astore 5, 2) := by decide +kernel
theorem d8_41 : decode jdk_42_method_149_code 41 = .ok (.aload_n 0, 1) := by decide +kernel
theorem d8_42 : decode jdk_42_method_149_code 42 = .ok (.aload 5, 2) := by decide +kernel
theorem d8_44 : decode jdk_42_method_149_code 44 = .ok (.iload_n 3, 1) := by decide +kernel
theorem d8_45 : decode jdk_42_method_149_code 45 = .ok (.invokestatic 47, 3) := by decide +kernel
theorem d8_48 : decode jdk_42_method_149_code 48 = .ok (.putfield 15, 3) := by decide +kernel
theorem d8_51 : decode jdk_42_method_149_code 51 = .ok (.aload_n 0, 1) := by decide +kernel
theorem d8_52 : decode jdk_42_method_149_code 52 = .ok (.aload 5, 2) := by decide +kernel
theorem d8_54 : decode jdk_42_method_149_code 54 = .ok (.putfield 9, 3) := by decide +kernel
theorem d8_57 : decode jdk_42_method_149_code 57 = .ok (.return_, 1) := by decide +kernel
theorem d8_58 : decode jdk_42_method_149_code 58 = .ok (.aload_n 0, 1) := by decide +kernel
theorem d8_59 : decode jdk_42_method_149_code 59 = .ok (.iconst 1, 1) := by decide +kernel
theorem d8_60 : decode jdk_42_method_149_code 60 = .ok (.putfield 15, 3) := by decide +kernel
theorem d8_63 : decode jdk_42_method_149_code 63 = .ok (.aload_n 0, 1) := by decide +kernel
theorem d8_64 : decode jdk_42_method_149_code 64 = .ok (.aload_n 1, 1) := by decide +kernel
theorem d8_65 : decode jdk_42_method_149_code 65 = .ok (.iload_n 2, 1) := by decide +kernel
theorem d8_66 : decode jdk_42_method_149_code 66 = .ok (.iload_n 3, 1) := by decide +kernel
theorem d8_70 : decode jdk_42_method_149_code 70 = .ok (.putfield 9, 3) := by decide +kernel
theorem d8_73 : decode jdk_42_method_149_code 73 = .ok (.return_, 1) := by decide +kernel
theorem ef_sI2 (m : MethodId) (x : Addr) (a : Addr) (i1 : Int32) (i2 : Int32) : entryFrame m #[(.ref x), (.ref a), (.int i1), (.int i2), (.null)] 6 = mkF m 0 #[.val (.ref x), .val (.ref a), .val (.int i1), .val (.int i2), .val (.null), .unset] [] := by first | (simp [entryFrame, mkF, argsToLocals, Value.category]; done) | rfl
theorem pd_6 : parseMethodDescriptor "([BI)B" = some ⟨[(.array .byte), .int], (some .byte)⟩ := by decide +kernel
theorem pn_1 : plainName "java/lang/String" = true := by first | (simp [plainName, overriddenIn]; done) | decide +kernel
set_option maxRecDepth 65536 in
set_option maxHeartbeats 40000000 in
theorem con_sI2 {kn : Prop} (l : Launch) (Z : State) (a0 : Array Value) (E0 : Env0 Z a0) (O P : List Ent) (x a : Addr) (cs : List Int32) (N : Nat) (hN : cs.length ≤ N) (hN2 : N ≤ 60000) (h0 : 0 < cs.length) (hr : ∀ d ∈ cs, 0 ≤ d.toInt ∧ d.toInt < 65536) (hP : (a, ArrC Z .char (cs.map .int)) ∈ P) :
    Con kn l Z EL0 (⟨"java/lang/String", "<init>", "([CIILjava/lang/Void;)V"⟩ : MethodName) jdk_42_method_149_code 6 none [] ({ frames := 4, cells := 2, slots := 3 * N, locals := 65 } : Room) #[.ref x, .ref a, .int (0 : Int32), .int cs.length.toInt32, .null] ((x, ObjC Z "java/lang/String" shStr [.null, .int (0 : Int32)]) :: O) P (fun v O' P' => v = none ∧ O = O' ∧ (∀ y ∈ P, y ∈ P') ∧ IsStr Z P' x cs) := by
  obtain ⟨hw, hs0, hEL, hS, ⟨cs0, hC0, hcs0⟩, ⟨fv, hFv, hfv⟩, hAD, hHI, hLO, hmore⟩ := id E0
  refine con_intro (plainFor_of_name pn_1) hEL (fun m => ef_sI2 m _ _ _ _) ?_
  intro p e s m below meth c T W hnm
  refine g_aloadN W d8_0 (q := 1) rfl rfl rfl ?_
  refine g_objInit W (own_w hw 12 rfl) (own_w hw 13 rfl) (own_w hw 14 rfl) d8_1 (q := 4) rfl rfl (Nat.le_of_ble_eq_true rfl) (Nat.le_of_ble_eq_true rfl) fun T W => ?_
  refine g_iloadN W d8_4 (q := 5) rfl rfl ?_
  have hlen : cs.length < 2 ^ 31 := by omega
  refine g_ifY W d8_5 (q := 27) (XT.i0_ne_t (fun z => by have := (own_eq (j := 0) hlen (by decide)).mp z; omega)) (by decide) (by decide) ?_
  refine g_getS W hC0 (own_w hw 15 rfl) d8_27 (q := 30) rfl fun T W => ?_
  refine g_ifN W d8_30 (q := 33) (XT.i0_eq_f hcs0) rfl ?_
  refine g_aloadN W d8_33 (q := 34) rfl rfl rfl ?_
  refine g_iloadN W d8_34 (q := 35) rfl rfl ?_
  refine g_iloadN W d8_35 (q := 36) rfl rfl ?_
  refine g_static W (con_comp2 l Z a0 E0 _ P a cs N hN hN2 hr hP) (argsL := [(.ref a), (.int (0 : Int32)), (.int cs.length.toInt32)]) (rest := []) rfl rfl pd_4 rfl (own_w hw 16 rfl) (own_w hw 17 rfl) (own_w hw 18 rfl) (own_w hw 19 rfl) (by decide) d8_36 (q := 39) rfl rfl (Nat.le_of_ble_eq_true rfl) (Nat.le_of_ble_eq_true rfl) (Nat.le_of_ble_eq_true rfl) (by dsimp only; omega) ?_
  rintro _ _ _ T ⟨b, rfl, rfl, hcmp⟩ W
  rcases hcmp with ⟨hlat, rfl⟩ | ⟨hlat, rfl⟩
  · refine g_astore W d8_39 (q := 41) (L' := #[.val (.ref x), .val (.ref a), .val (.int (0 : Int32)), .val (.int cs.length.toInt32), .val (.null), .val (.ref b)]) rfl rfl rfl ?_
    refine g_aloadN W d8_41 (q := 42) rfl rfl rfl ?_
    refine g_aload W d8_42 (q := 44) rfl rfl rfl ?_
    refine g_iloadN W d8_44 (q := 45) rfl rfl ?_
    refine g_static W (con_cfal l Z a0 E0 _ P b (enc cs) cs.length.toInt32 (0 : Int32) (by rw [enc_len]; exact own_cf0 _)) (argsL := [(.ref b), (.int cs.length.toInt32)]) (rest := [(.ref x)]) rfl rfl pd_6 rfl (own_w hw 24 rfl) (own_w hw 25 rfl) (own_w hw 18 rfl) (own_w hw 26 rfl) (by decide) d8_45 (q := 48) rfl rfl (Nat.le_of_ble_eq_true rfl) (Nat.le_of_ble_eq_true rfl) (Nat.le_of_ble_eq_true rfl) (by dsimp only; omega) ?_
    rintro _ _ _ T ⟨rfl, rfl, rfl⟩ W
    refine g_putF W (i := 1) (j := 1) rfl (shStr_ok hw) shStr_nd rfl rfl (own_w hw 27 rfl) (Or.inr ⟨(own_w hw 28 rfl), rfl, hnm⟩) (own_w hw 2 rfl) (ty := .byte) (by decide) rfl rfl d8_48 (q := 51) rfl (vs' := [.null, .int (0 : Int32)]) rfl (O' := (b, ArrC Z .byte (enc cs)) :: (x, ObjC Z "java/lang/String" shStr [.null, .int (0 : Int32)]) :: O) rfl fun T W => ?_
    refine g_aloadN W d8_51 (q := 52) rfl rfl rfl ?_
    refine g_aload W d8_52 (q := 54) rfl rfl rfl ?_
    refine g_putF W (i := 1) (j := 0) rfl (shStr_ok hw) shStr_nd rfl rfl (own_w hw 29 rfl) (Or.inr ⟨(own_w hw 30 rfl), rfl, hnm⟩) (own_w hw 2 rfl) (ty := (.array .byte)) (by decide) rfl rfl d8_54 (q := 57) rfl (vs' := [.ref b, .int (0 : Int32)]) rfl (O' := (b, ArrC Z .byte (enc cs)) :: (x, ObjC Z "java/lang/String" shStr [.ref b, .int (0 : Int32)]) :: O) rfl fun T W => ?_
    have W := W.share (i := 0) rfl
    have W := W.share (i := 0) rfl
    exact g_retV W rfl d8_57 (Nat.le_of_ble_eq_true rfl) (by dsimp only; omega) ⟨rfl, rfl, fun y hy => .tail _ (.tail _ hy), b, Or.inl ⟨hlat, .head _, .tail _ (.head _)⟩⟩
  · refine g_astore W d8_39 (q := 41) (L' := #[.val (.ref x), .val (.ref a), .val (.int (0 : Int32)), .val (.int cs.length.toInt32), .val (.null), .val (.ref b)]) rfl rfl rfl ?_
    refine g_aloadN W d8_41 (q := 42) rfl rfl rfl ?_
    refine g_aload W d8_42 (q := 44) rfl rfl rfl ?_
    refine g_iloadN W d8_44 (q := 45) rfl rfl ?_
    refine g_static W (con_cfal l Z a0 E0 _ P b (enc16 cs) cs.length.toInt32 (1 : Int32) (by rw [enc16_len]; exact own_cf1 (by omega) (by omega))) (argsL := [(.ref b), (.int cs.length.toInt32)]) (rest := [(.ref x)]) rfl rfl pd_6 rfl (own_w hw 24 rfl) (own_w hw 25 rfl) (own_w hw 18 rfl) (own_w hw 26 rfl) (by decide) d8_45 (q := 48) rfl rfl (Nat.le_of_ble_eq_true rfl) (Nat.le_of_ble_eq_true rfl) (Nat.le_of_ble_eq_true rfl) (by dsimp only; omega) ?_
    rintro _ _ _ T ⟨rfl, rfl, rfl⟩ W
    refine g_putF W (i := 1) (j := 1) rfl (shStr_ok hw) shStr_nd rfl rfl (own_w hw 27 rfl) (Or.inr ⟨(own_w hw 28 rfl), rfl, hnm⟩) (own_w hw 2 rfl) (ty := .byte) (by decide) rfl rfl d8_48 (q := 51) rfl (vs' := [.null, .int (1 : Int32)]) rfl (O' := (b, ArrC Z .byte (enc16 cs)) :: (x, ObjC Z "java/lang/String" shStr [.null, .int (1 : Int32)]) :: O) rfl fun T W => ?_
    refine g_aloadN W d8_51 (q := 52) rfl rfl rfl ?_
    refine g_aload W d8_52 (q := 54) rfl rfl rfl ?_
    refine g_putF W (i := 1) (j := 0) rfl (shStr_ok hw) shStr_nd rfl rfl (own_w hw 29 rfl) (Or.inr ⟨(own_w hw 30 rfl), rfl, hnm⟩) (own_w hw 2 rfl) (ty := (.array .byte)) (by decide) rfl rfl d8_54 (q := 57) rfl (vs' := [.ref b, .int (1 : Int32)]) rfl (O' := (b, ArrC Z .byte (enc16 cs)) :: (x, ObjC Z "java/lang/String" shStr [.ref b, .int (1 : Int32)]) :: O) rfl fun T W => ?_
    have W := W.share (i := 0) rfl
    have W := W.share (i := 0) rfl
    exact g_retV W rfl d8_57 (Nat.le_of_ble_eq_true rfl) (by dsimp only; omega) ⟨rfl, rfl, fun y hy => .tail _ (.tail _ hy), b, Or.inr ⟨hlat, .head _, .tail _ (.head _)⟩⟩
theorem d9_0 : decode jdk_42_method_3_code 0 = .ok (.aload_n 0, 1) := by decide +kernel
theorem d9_1 : decode jdk_42_method_3_code 1 = .ok (.aload_n 1, 1) := by decide +kernel
theorem d9_2 : decode jdk_42_method_3_code 2 = .ok (.iconst 0, 1) := by decide +kernel
theorem d9_3 : decode jdk_42_method_3_code 3 = .ok (.aload_n 1, 1) := by decide +kernel
theorem d9_4 : decode jdk_42_method_3_code 4 = .ok (.arraylength, 1) := by decide +kernel
theorem d9_5 : decode jdk_42_method_3_code 5 = .ok (.aconst_null, 1) := by decide +kernel
theorem d9_6 : decode jdk_42_method_3_code 6 = .ok (.invokespecial 27, 3) := by decide +kernel
theorem d9_9 : decode jdk_42_method_3_code 9 = .ok (.return_, 1) := by decide +kernel
theorem ef_sI1 (m : MethodId) (x : Addr) (a : Addr) : entryFrame m #[(.ref x), (.ref a)] 2 = mkF m 0 #[.val (.ref x), .val (.ref a)] [] := by first | (simp [entryFrame, mkF, argsToLocals, Value.category]; done) | rfl
theorem pd_7 : parseMethodDescriptor "([CIILjava/lang/Void;)V" = some ⟨[(.array .char), .int, .int, (.object "java/lang/Void")], none⟩ := by decide +kernel
set_option maxRecDepth 65536 in
set_option maxHeartbeats 40000000 in
theorem con_sI1 {kn : Prop} (l : Launch) (Z : State) (a0 : Array Value) (E0 : Env0 Z a0) (O P : List Ent) (x a : Addr) (cs : List Int32) (N : Nat) (hN : cs.length ≤ N) (hN2 : N ≤ 60000) (h0 : 0 < cs.length) (hr : ∀ d ∈ cs, 0 ≤ d.toInt ∧ d.toInt < 65536) (hP : (a, ArrC Z .char (cs.map .int)) ∈ P) :
    Con kn l Z EL0 (⟨"java/lang/String", "<init>", "([C)V"⟩ : MethodName) jdk_42_method_3_code 2 none [] ({ frames := 5, cells := 2, slots := 3 * N, locals := 82 } : Room) #[.ref x, .ref a] ((x, ObjC Z "java/lang/String" shStr [.null, .int (0 : Int32)]) :: O) P (fun v O' P' => v = none ∧ O = O' ∧ (∀ y ∈ P, y ∈ P') ∧ IsStr Z P' x cs) := by
  obtain ⟨hw, hs0, hEL, hS, ⟨cs0, hC0, hcs0⟩, ⟨fv, hFv, hfv⟩, hAD, hHI, hLO, hmore⟩ := id E0
  refine con_intro (plainFor_of_name pn_1) hEL (fun m => ef_sI1 m _ _) ?_
  intro p e s m below meth c T W hnm
  refine g_aloadN W d9_0 (q := 1) rfl rfl rfl ?_
  refine g_aloadN W d9_1 (q := 2) rfl rfl rfl ?_
  refine g_iconst W (v := (0 : Int32)) d9_2 (q := 3) rfl rfl ?_
  refine g_aloadN W d9_3 (q := 4) rfl rfl rfl ?_
  refine g_len W (W.rd hP) (z := cs.length.toInt32) (by rw [List.length_map]) d9_4 (q := 5) rfl ?_
  refine g_null W d9_5 (q := 6) rfl ?_
  refine g_special W (con_sI2 l Z a0 E0 O P x a cs N hN hN2 h0 hr hP) (argsL := [(.ref a), (.int (0 : Int32)), (.int cs.length.toInt32), (.null)]) (rest := []) rfl rfl rfl pd_7 rfl (own_w hw 8 rfl) (own_w hw 9 rfl) (own_w hw 3 rfl) (own_w hw 11 rfl) (by decide) d9_6 (q := 9) rfl rfl (Nat.le_of_ble_eq_true rfl) (Nat.le_of_ble_eq_true rfl) (Nat.le_of_ble_eq_true rfl) (by dsimp only; omega) ?_
  rintro _ _ _ T ⟨rfl, rfl, hsub, hstr⟩ W
  exact g_retV W rfl d9_9 (Nat.le_of_ble_eq_true rfl) (by dsimp only; omega) ⟨rfl, rfl, hsub, hstr⟩
def grow (cap mn : Nat) : Nat := if mn ≤ cap then cap else cap + max (mn - cap) (cap + 2)
theorem own_add {i j : Nat} (h : i + j < 2 ^ 31) : i.toInt32 + j.toInt32 = (i + j).toInt32 := by
  rw [← Int32.toInt_inj, own_i32 h, Int32.toInt_add, own_i32 (by omega), own_i32 (by omega), Int.bmod_eq_of_le (by omega) (by omega)]; omega
theorem own_sub {i j : Nat} (hj : j ≤ i) (h : i < 2 ^ 31) : i.toInt32 - j.toInt32 = (i - j).toInt32 := by
  rw [← Int32.toInt_inj, own_i32 (by omega), Int32.toInt_sub, own_i32 (by omega), own_i32 (by omega), Int.bmod_eq_of_le (by omega) (by omega)]; omega
theorem own_subpos {i j : Nat} (hi : i < 2 ^ 31) (hj : j < 2 ^ 31) : (0 : Int32) < i.toInt32 - j.toInt32 ↔ j < i := by
  have e : (i.toInt32 - j.toInt32).toInt = (i : Int) - j := by rw [Int32.toInt_sub, own_i32 hi, own_i32 hj, Int.bmod_eq_of_le (by omega) (by omega)]
  rw [Int32.lt_iff_toInt_lt, e]; show (0 : Int) < _ ↔ _; omega
theorem own_shl0 (x : Int32) : x <<< ((0 : Int32) &&& 31) = x := by
  have h := c_ishl x 0 0 (by decide)
  have h2 := rng32 x
  have h3 := rng32 (x <<< ((0 : Int32) &&& 31))
  rw [← Int32.toInt_inj]; omega
theorem own_neMax {i : Nat} (h : i ≤ 200000) : ¬ i.toInt32 = (2147483647 : Int32) := fun z => by
  have := (own_eq (i := i) (j := 2147483647) (by omega) (by omega)).mp z; omega
theorem enc_app (cs ds : List Int32) : enc (cs ++ ds) = enc cs ++ enc ds := by simp [enc]
theorem own_cpo {vs : List Value} {n : Nat} (h : vs.length ≤ n) : (List.replicate n (Value.int 0)).take 0 ++ (vs.drop 0).take vs.length ++ (List.replicate n (Value.int 0)).drop (0 + vs.length) = vs ++ List.replicate (n - vs.length) (Value.int 0) := by
  simp [List.drop_replicate]
theorem own_cpr {vs : List Value} {n : Nat} (h : n ≤ vs.length) : (List.replicate n (Value.int 0)).take 0 ++ (vs.drop 0).take n ++ (List.replicate n (Value.int 0)).drop (0 + n) = vs.take n := by
  simp [List.drop_replicate]
theorem own_put {cs ds : List Int32} {r : List Value} : (enc cs ++ r).take cs.length ++ ((enc ds).drop 0).take ds.length ++ (enc cs ++ r).drop (cs.length + ds.length) = enc (cs ++ ds) ++ r.drop ds.length := by
  have e1 : (enc cs ++ r).take cs.length = enc cs := by rw [List.take_append_of_le_length (by rw [enc_len]; omega), List.take_of_length_le (by rw [enc_len]; omega)]
  have e2 : ((enc ds).drop 0).take ds.length = enc ds := by rw [List.drop_zero, List.take_of_length_le (by rw [enc_len]; omega)]
  have e3 : (enc cs ++ r).drop (cs.length + ds.length) = r.drop ds.length := by
    rw [List.drop_append, List.drop_of_length_le (by rw [enc_len]; omega), enc_len, List.nil_append]; congr 1; omega
  rw [e1, e2, e3, enc_app]
theorem own_takeE {cs : List Int32} {r : List Value} : (enc cs ++ r).take cs.length = enc cs := by rw [List.take_append_of_le_length (by rw [enc_len]; omega), List.take_of_length_le (by rw [enc_len]; omega)]
theorem own_ornn {x y : Int32} (hx : ¬ x < 0) (hy : ¬ y < 0) : ¬ (x ||| y) < 0 := fun h => by
  have k : ∀ z : Int32, z < 0 ↔ z.toBitVec.msb = true := fun z => by
    rw [Int32.lt_iff_toInt_lt, BitVec.msb_eq_toInt]; show z.toBitVec.toInt < 0 ↔ _; simp
  rw [k] at hx hy h
  rw [Int32.toBitVec_or, BitVec.msb_or] at h
  simp_all
theorem own_put16 {ps : List Int32} {r : List Value} {d : Int32} (h : 2 ≤ r.length) : ((enc16 ps ++ r).set (2 * ps.length) (.int d.toInt8.toInt32)).set (2 * ps.length + 1) (.int (d >>> ((8 : Int32) &&& 31)).toInt8.toInt32) = enc16 (ps ++ [d]) ++ r.drop 2 := by
  match r, h with
  | a :: b :: r, _ =>
    rw [List.set_append_right _ _ (by rw [enc16_len]; omega), enc16_len, Nat.sub_self, List.set_cons_zero, List.set_append_right _ _ (by rw [enc16_len]; omega), enc16_len, show 2 * ps.length + 1 - 2 * ps.length = 0 + 1 by omega, List.set_cons_succ, List.set_cons_zero, enc16_app]
    simp [enc16]
theorem own_putW {cs ds : List Int32} {r : List Value} : (enc16 cs ++ r).take (2 * cs.length) ++ ((enc16 ds).drop 0).take (2 * ds.length) ++ (enc16 cs ++ r).drop (2 * cs.length + 2 * ds.length) = enc16 (cs ++ ds) ++ r.drop (2 * ds.length) := by
  have e1 : (enc16 cs ++ r).take (2 * cs.length) = enc16 cs := by rw [List.take_append_of_le_length (by rw [enc16_len]; omega), List.take_of_length_le (by rw [enc16_len]; omega)]
  have e2 : ((enc16 ds).drop 0).take (2 * ds.length) = enc16 ds := by rw [List.drop_zero, List.take_of_length_le (by rw [enc16_len]; omega)]
  have e3 : (enc16 cs ++ r).drop (2 * cs.length + 2 * ds.length) = r.drop (2 * ds.length) := by
    rw [List.drop_append, List.drop_of_length_le (by rw [enc16_len]; omega), enc16_len, List.nil_append]; congr 1; omega
  rw [e1, e2, e3, enc16_app]
theorem own_takeW {cs : List Int32} {r : List Value} : (enc16 cs ++ r).take (2 * cs.length) = enc16 cs := by rw [List.take_append_of_le_length (by rw [enc16_len]; omega), List.take_of_length_le (by rw [enc16_len]; omega)]
theorem own_encAt {ds : List Int32} {r : List Value} {i : Nat} {d : Int32} (h : ds[i]? = some d) : (enc ds ++ r)[i]? = some (.int d.toInt8.toInt32) := by
  rw [List.getElem?_append_left (by rw [enc_len]; exact (List.getElem?_eq_some_iff.mp h).1), enc, List.getElem?_map, h]; rfl
def Src (O P : List Ent) (x : Ent) : Prop := (∃ j : Nat, O[j]? = some x) ∨ x ∈ P
theorem Src.at {kn : Prop} {p : Program} {l : Launch} {e : Env} {R : Room} {s : State} {m : MethodId} {args : Array Value} {below : List Frame} {meth : Method} {c : Code} {bytes : ByteArray} {maxL : Nat} {ret : Option FieldType} {Z : State} {a0 : Array Value} {EL : List (String × Nat)} {own : String} {T : State} {O P : List Ent} {k n : Nat} {u a : Addr} {φ ψ : Cell → Prop} (h : Src O P (a, φ)) (W : Wk kn p l e R s m args below meth c bytes maxL ret Z a0 EL own T ((u, ψ) :: O) P k n) : ∃ c, T.heap[a]? = some c ∧ φ c := by
  rcases h with ⟨j, h⟩ | h
  · exact W.ow (i := j + 1) h
  · exact W.rd h
def shSB : Shape := [("java/lang/AbstractStringBuilder", "value", "[B"), ("java/lang/AbstractStringBuilder", "coder", "B"), ("java/lang/AbstractStringBuilder", "count", "I"), ("java/lang/AbstractStringBuilder", "maybeLatin1", "Z")]
theorem shSB_ok {Z : State} {a0 : Array Value} (hw : ∀ d ∈ tables_1, d.before a0 Z = true) : ShOk Z a0 "java/lang/StringBuilder" shSB := fun i f hf => match i, hf with
    | 0, hf => by cases hf; exact ⟨(Or.inl (own_w hw 55 rfl)), _, (by decide : parseFieldDescriptor "[B" = some (.array .byte))⟩
    | 1, hf => by cases hf; exact ⟨(Or.inl (own_w hw 57 rfl)), _, (by decide : parseFieldDescriptor "B" = some .byte)⟩
    | 2, hf => by cases hf; exact ⟨(Or.inl (own_w hw 80 rfl)), _, (by decide : parseFieldDescriptor "I" = some .int)⟩
    | 3, hf => by cases hf; exact ⟨(Or.inl (own_w hw 313 rfl)), _, (by decide : parseFieldDescriptor "Z" = some .boolean)⟩
    | i + 4, hf => by simp [shSB] at hf
theorem shSB_nd : (shSB.map (·.2.1)).Nodup := by decide +kernel
theorem shSB_ds : shSB.map (fun f => (parseFieldDescriptor f.2.2).map defaultValue) = [Value.null, .int 0, .int 0, .int 0].map some := by decide +kernel
theorem d10_0 : decode jdk_29_method_65_code 0 = .ok (.iload_n 0, 1) := by decide +kernel
theorem d10_1 : decode jdk_29_method_65_code 1 = .ok (.iload_n 1, 1) := by decide +kernel
theorem d10_2 : decode jdk_29_method_65_code 2 = .ok (.if_icmp .lt 7, 3) := by decide +kernel
theorem d10_5 : decode jdk_29_method_65_code 5 = .ok (.iload_n 0, 1) := by decide +kernel
theorem d10_6 : decode jdk_29_method_65_code 6 = .ok (.goto 4, 3) := by decide +kernel
theorem d10_9 : decode jdk_29_method_65_code 9 = .ok (.iload_n 1, 1) := by decide +kernel
theorem d10_10 : decode jdk_29_method_65_code 10 = .ok (.ireturn, 1) := by decide +kernel
theorem ef_max (m : MethodId) (i : Int32) (j : Int32) : entryFrame m #[(.int i), (.int j)] 2 = mkF m 0 #[.val (.int i), .val (.int j)] [] := by first | (simp [entryFrame, mkF, argsToLocals, Value.category]; done) | rfl
theorem pf_2 : plainFor (⟨"java/lang/Math", "max", "(II)I"⟩ : MethodName) = true := by decide +kernel
set_option maxRecDepth 65536 in
set_option maxHeartbeats 40000000 in
theorem con_max {kn : Prop} (l : Launch) (Z : State) (a0 : Array Value) (E0 : Env0 Z a0) (O P : List Ent) (i j : Nat) (hi : i ≤ 200000) (hj : j ≤ 200000) :
    Con kn l Z EL0 (⟨"java/lang/Math", "max", "(II)I"⟩ : MethodName) jdk_29_method_65_code 2 (some .int) [] ({ frames := 0, cells := 0, slots := 0, locals := 0 } : Room) #[.int i.toInt32, .int j.toInt32] O P (fun v O' P' => v = some (.int (max i j).toInt32) ∧ O = O' ∧ P = P') := by
  obtain ⟨hw, hs0, hEL, hS, ⟨cs0, hC0, hcs0⟩, ⟨fv, hFv, hfv⟩, hAD, hHI, hLO, hmore⟩ := id E0
  refine con_intro pf_2 hEL (fun m => ef_max m _ _) ?_
  intro p e s m below meth c T W hnm
  refine g_iloadN W d10_0 (q := 1) rfl rfl ?_
  refine g_iloadN W d10_1 (q := 2) rfl rfl ?_
  by_cases hz : i < j
  · refine g_icY W d10_2 (q := 9) (XT.ii_lt_t ((own_lt (by omega) (by omega)).mpr hz)) (by decide) (by decide) ?_
    refine g_iloadN W d10_9 (q := 10) rfl rfl ?_
    exact g_retI W rfl (Or.inl rfl) rfl d10_10 (Nat.le_of_ble_eq_true rfl) (Nat.le_of_ble_eq_true rfl) ⟨by rw [show max i j = j by omega], rfl, rfl⟩
  · refine g_icN W d10_2 (q := 5) (XT.ii_lt_f (fun q => hz ((own_lt (by omega) (by omega)).mp q))) rfl ?_
    refine g_iloadN W d10_5 (q := 6) rfl rfl ?_
    refine g_goto W d10_6 (q := 10) (by decide) (by decide) ?_
    exact g_retI W rfl (Or.inl rfl) rfl d10_10 (Nat.le_of_ble_eq_true rfl) (Nat.le_of_ble_eq_true rfl) ⟨by rw [show max i j = i by omega], rfl, rfl⟩
theorem d11_0 : decode jdk_29_method_69_code 0 = .ok (.iload_n 0, 1) := by decide +kernel
theorem d11_1 : decode jdk_29_method_69_code 1 = .ok (.iload_n 1, 1) := by decide +kernel
theorem d11_2 : decode jdk_29_method_69_code 2 = .ok (.if_icmp .gt 7, 3) := by decide +kernel
theorem d11_5 : decode jdk_29_method_69_code 5 = .ok (.iload_n 0, 1) := by decide +kernel
theorem d11_6 : decode jdk_29_method_69_code 6 = .ok (.goto 4, 3) := by decide +kernel
theorem d11_9 : decode jdk_29_method_69_code 9 = .ok (.iload_n 1, 1) := by decide +kernel
theorem d11_10 : decode jdk_29_method_69_code 10 = .ok (.ireturn, 1) := by decide +kernel
theorem ef_min (m : MethodId) (i : Int32) (j : Int32) : entryFrame m #[(.int i), (.int j)] 2 = mkF m 0 #[.val (.int i), .val (.int j)] [] := by first | (simp [entryFrame, mkF, argsToLocals, Value.category]; done) | rfl
theorem pf_3 : plainFor (⟨"java/lang/Math", "min", "(II)I"⟩ : MethodName) = true := by decide +kernel
set_option maxRecDepth 65536 in
set_option maxHeartbeats 40000000 in
theorem con_min {kn : Prop} (l : Launch) (Z : State) (a0 : Array Value) (E0 : Env0 Z a0) (O P : List Ent) (i j : Nat) (hi : i ≤ 200000) (hj : j ≤ 200000) :
    Con kn l Z EL0 (⟨"java/lang/Math", "min", "(II)I"⟩ : MethodName) jdk_29_method_69_code 2 (some .int) [] ({ frames := 0, cells := 0, slots := 0, locals := 0 } : Room) #[.int i.toInt32, .int j.toInt32] O P (fun v O' P' => v = some (.int (min i j).toInt32) ∧ O = O' ∧ P = P') := by
  obtain ⟨hw, hs0, hEL, hS, ⟨cs0, hC0, hcs0⟩, ⟨fv, hFv, hfv⟩, hAD, hHI, hLO, hmore⟩ := id E0
  refine con_intro pf_3 hEL (fun m => ef_min m _ _) ?_
  intro p e s m below meth c T W hnm
  refine g_iloadN W d11_0 (q := 1) rfl rfl ?_
  refine g_iloadN W d11_1 (q := 2) rfl rfl ?_
  by_cases hz : j < i
  · refine g_icY W d11_2 (q := 9) (XT.ii_gt_t ((own_lt (by omega) (by omega)).mpr hz)) (by decide) (by decide) ?_
    refine g_iloadN W d11_9 (q := 10) rfl rfl ?_
    exact g_retI W rfl (Or.inl rfl) rfl d11_10 (Nat.le_of_ble_eq_true rfl) (Nat.le_of_ble_eq_true rfl) ⟨by rw [show min i j = j by omega], rfl, rfl⟩
  · refine g_icN W d11_2 (q := 5) (XT.ii_gt_f (fun q => hz ((own_lt (by omega) (by omega)).mp q))) rfl ?_
    refine g_iloadN W d11_5 (q := 6) rfl rfl ?_
    refine g_goto W d11_6 (q := 10) (by decide) (by decide) ?_
    exact g_retI W rfl (Or.inl rfl) rfl d11_10 (Nat.le_of_ble_eq_true rfl) (Nat.le_of_ble_eq_true rfl) ⟨by rw [show min i j = i by omega], rfl, rfl⟩
theorem d12_0 : decode jdk_41_method_13_code 0 = .ok (.iload_n 2, 1) := by decide +kernel
theorem d12_1 : decode jdk_41_method_13_code 1 = .ok (.iload_n 0, 1) := by decide +kernel
theorem d12_2 : decode jdk_41_method_13_code 2 = .ok (.ior, 1) := by decide +kernel
theorem d12_3 : decode jdk_41_method_13_code 3 = .ok (.iload_n 1, 1) := by decide +kernel
theorem d12_4 : decode jdk_41_method_13_code 4 = .ok (.ior, 1) := by decide +kernel
theorem d12_5 : decode jdk_41_method_13_code 5 = .ok (.ifCond .lt 10, 3) := by decide +kernel
theorem d12_8 : decode jdk_41_method_13_code 8 = .ok (.iload_n 1, 1) := by decide +kernel
theorem d12_9 : decode jdk_41_method_13_code 9 = .ok (.iload_n 2, 1) := by decide +kernel
theorem d12_10 : decode jdk_41_method_13_code 10 = .ok (.iload_n 0, 1) := by decide +kernel
theorem d12_11 : decode jdk_41_method_13_code 11 = .ok (.isub, 1) := by decide +kernel
theorem d12_12 : decode jdk_41_method_13_code 12 = .ok (.if_icmp .le 11, 3) := by decide +kernel
theorem d12_15 : decode jdk_41_method_13_code 15 = .ok (.aload_n 3, 1) := by decide +kernel
theorem d12_16 : decode jdk_41_method_13_code 16 = .ok (.iload_n 0, 1) := by decide +kernel
theorem d12_17 : decode jdk_41_method_13_code 17 = .ok (.iload_n 1, 1) := by decide +kernel
theorem d12_18 : decode jdk_41_method_13_code 18 = .ok (.iload_n 2, 1) := by decide +kernel
theorem d12_22 : decode jdk_41_method_13_code 22 = .ok (.athrow, 1) := by decide +kernel
theorem d12_23 : decode jdk_41_method_13_code 23 = .ok (.iload_n 0, 1) := by decide +kernel
theorem d12_24 : decode jdk_41_method_13_code 24 = .ok (.ireturn, 1) := by decide +kernel
theorem ef_cfis (m : MethodId) (i j h : Int32) (fv : Value) (hv : fv.isRef = true) : entryFrame m #[.int i, .int j, .int h, fv] 4 = mkF m 0 #[.val (.int i), .val (.int j), .val (.int h), .val fv] [] := by rcases ref_cases hv with rfl | ⟨r, rfl⟩ <;> first | (simp [entryFrame, mkF, argsToLocals, Value.category]; done) | rfl
theorem pn_4 : plainName "jdk/internal/util/Preconditions" = true := by first | (simp [plainName, overriddenIn]; done) | decide +kernel
set_option maxRecDepth 65536 in
set_option maxHeartbeats 40000000 in
theorem con_cfis {kn : Prop} (l : Launch) (Z : State) (a0 : Array Value) (E0 : Env0 Z a0) (O P : List Ent) (i j h : Nat) (h1 : i + j ≤ h) (h2 : h ≤ 60000) (fv : Value) (hv : fv.isRef = true) :
    Con kn l Z EL0 (⟨"jdk/internal/util/Preconditions", "checkFromIndexSize", "(IIILjava/util/function/BiFunction;)I"⟩ : MethodName) jdk_41_method_13_code 4 (some .int) [] ({ frames := 0, cells := 0, slots := 0, locals := 0 } : Room) #[.int i.toInt32, .int j.toInt32, .int h.toInt32, fv] O P (fun v0 O' P' => v0 = some (.int i.toInt32) ∧ O = O' ∧ P = P') := by
  obtain ⟨hw, hs0, hEL, hS, ⟨cs0, hC0, hcs0⟩, ⟨fv, hFv, hfv⟩, hAD, hHI, hLO, hmore⟩ := id E0
  refine con_intro (plainFor_of_name pn_4) hEL (fun m => ef_cfis m _ _ _ _ hv) ?_
  intro p e s m below meth c T W hnm
  refine g_iloadN W d12_0 (q := 1) rfl rfl ?_
  refine g_iloadN W d12_1 (q := 2) rfl rfl ?_
  refine g_ior W d12_2 (q := 3) (z := (h.toInt32 ||| i.toInt32)) rfl rfl ?_
  refine g_iloadN W d12_3 (q := 4) rfl rfl ?_
  refine g_ior W d12_4 (q := 5) (z := ((h.toInt32 ||| i.toInt32) ||| j.toInt32)) rfl rfl ?_
  refine g_ifN W d12_5 (q := 8) (XT.i0_lt_f (own_ornn (own_ornn (own_nn (by omega)) (own_nn (by omega))) (own_nn (by omega)))) rfl ?_
  refine g_iloadN W d12_8 (q := 9) rfl rfl ?_
  refine g_iloadN W d12_9 (q := 10) rfl rfl ?_
  refine g_iloadN W d12_10 (q := 11) rfl rfl ?_
  refine g_isub W d12_11 (q := 12) (z := (h - i).toInt32) (own_sub (by omega) (by omega)) rfl ?_
  refine g_icY W d12_12 (q := 23) (XT.ii_le_t (fun z => absurd ((own_lt (by omega) (by omega)).mp z) (by omega))) (by decide) (by decide) ?_
  refine g_iloadN W d12_23 (q := 24) rfl rfl ?_
  exact g_retI W rfl (Or.inl rfl) rfl d12_24 (Nat.le_of_ble_eq_true rfl) (Nat.le_of_ble_eq_true rfl) ⟨rfl, rfl, rfl⟩
theorem d13_0 : decode jdk_42_method_157_code 0 = .ok (.iload_n 0, 1) := by decide +kernel
theorem d13_1 : decode jdk_42_method_157_code 1 = .ok (.iload_n 1, 1) := by decide +kernel
theorem d13_2 : decode jdk_42_method_157_code 2 = .ok (.iload_n 2, 1) := by decide +kernel
theorem d13_3 : decode jdk_42_method_157_code 3 = .ok (.getstatic 1053, 3) := by decide +kernel
theorem d13_6 : decode jdk_42_method_157_code 6 = .ok (.invokestatic 1065, 3) := by decide +kernel
theorem d13_9 : decode jdk_42_method_157_code 9 = .ok (.ireturn, 1) := by decide +kernel
theorem ef_scb (m : MethodId) (i : Int32) (j : Int32) (h : Int32) : entryFrame m #[(.int i), (.int j), (.int h)] 3 = mkF m 0 #[.val (.int i), .val (.int j), .val (.int h)] [] := by first | (simp [entryFrame, mkF, argsToLocals, Value.category]; done) | rfl
theorem pd_8 : parseMethodDescriptor "(IIILjava/util/function/BiFunction;)I" = some ⟨[.int, .int, .int, (.object "java/util/function/BiFunction")], (some .int)⟩ := by decide +kernel
set_option maxRecDepth 65536 in
set_option maxHeartbeats 40000000 in
theorem con_scb {kn : Prop} (l : Launch) (Z : State) (a0 : Array Value) (E0 : Env0 Z a0) (O P : List Ent) (i j h : Nat) (h1 : i + j ≤ h) (h2 : h ≤ 60000) :
    Con kn l Z EL0 (⟨"java/lang/String", "checkBoundsOffCount", "(III)I"⟩ : MethodName) jdk_42_method_157_code 3 (some .int) [] ({ frames := 1, cells := 0, slots := 0, locals := 15 } : Room) #[.int i.toInt32, .int j.toInt32, .int h.toInt32] O P (fun v0 O' P' => v0 = some (.int i.toInt32) ∧ O = O' ∧ P = P') := by
  obtain ⟨hw, hs0, hEL, hS, ⟨cs0, hC0, hcs0⟩, ⟨fv, hFv, hfv⟩, hAD, hHI, hLO, hmore⟩ := id E0
  refine con_intro (plainFor_of_name pn_1) hEL (fun m => ef_scb m _ _ _) ?_
  intro p e s m below meth c T W hnm
  refine g_iloadN W d13_0 (q := 1) rfl rfl ?_
  refine g_iloadN W d13_1 (q := 2) rfl rfl ?_
  refine g_iloadN W d13_2 (q := 3) rfl rfl ?_
  refine g_getS W hFv (own_w hw 306 rfl) d13_3 (q := 6) rfl fun T W => ?_
  refine g_static W (con_cfis l Z a0 E0 O P i j h h1 h2 fv hfv) (argsL := [(.int i.toInt32), (.int j.toInt32), (.int h.toInt32), (fv)]) (rest := []) rfl rfl pd_8 rfl (own_w hw 308 rfl) (own_w hw 309 rfl) (own_w hw 307 rfl) (own_w hw 310 rfl) (by decide) d13_6 (q := 9) rfl rfl (Nat.le_of_ble_eq_true rfl) (Nat.le_of_ble_eq_true rfl) (Nat.le_of_ble_eq_true rfl) (Nat.le_of_ble_eq_true rfl) ?_
  rintro _ _ _ T ⟨rfl, rfl, rfl⟩ W
  exact g_retI W rfl (Or.inl rfl) rfl d13_9 (Nat.le_of_ble_eq_true rfl) (Nat.le_of_ble_eq_true rfl) ⟨rfl, rfl, rfl⟩
theorem d14_0 : decode jdk_52_method_6_code 0 = .ok (.aload_n 0, 1) := by decide +kernel
theorem d14_1 : decode jdk_52_method_6_code 1 = .ok (.arraylength, 1) := by decide +kernel
theorem d14_2 : decode jdk_52_method_6_code 2 = .ok (.iconst 1, 1) := by decide +kernel
theorem d14_3 : decode jdk_52_method_6_code 3 = .ok (.ishr, 1) := by decide +kernel
theorem d14_4 : decode jdk_52_method_6_code 4 = .ok (.ireturn, 1) := by decide +kernel
theorem ef_ulen (m : MethodId) (b : Addr) : entryFrame m #[(.ref b)] 1 = mkF m 0 #[.val (.ref b)] [] := by first | (simp [entryFrame, mkF, argsToLocals, Value.category]; done) | rfl
set_option maxRecDepth 65536 in
set_option maxHeartbeats 40000000 in
theorem con_ulenO {kn : Prop} (l : Launch) (Z : State) (a0 : Array Value) (E0 : Env0 Z a0) (O P : List Ent) (u : Addr) (vs : List Value) (h : Nat) (hv : vs.length = 2 * h) (hh : h ≤ 60000) :
    Con kn l Z EL0 (⟨"java/lang/StringUTF16", "length", "([B)I"⟩ : MethodName) jdk_52_method_6_code 1 (some .int) [] ({ frames := 0, cells := 0, slots := 0, locals := 0 } : Room) #[.ref u] ((u, ArrC Z .byte vs) :: O) P (fun v0 O' P' => v0 = some (.int h.toInt32) ∧ (u, ArrC Z .byte vs) :: O = O' ∧ P = P') := by
  obtain ⟨hw, hs0, hEL, hS, ⟨cs0, hC0, hcs0⟩, ⟨fv, hFv, hfv⟩, hAD, hHI, hLO, hmore⟩ := id E0
  refine con_intro (plainFor_of_name pn_0) hEL (fun m => ef_ulen m _) ?_
  intro p e s m below meth c T W hnm
  refine g_aloadN W d14_0 (q := 1) rfl rfl rfl ?_
  refine g_len W (W.ow (i := 0) rfl) (z := (2 * h).toInt32) (by rw [hv]) d14_1 (q := 2) rfl ?_
  refine g_iconst W (v := (1 : Int32)) d14_2 (q := 3) rfl rfl ?_
  refine g_ishr W d14_3 (q := 4) (z := h.toInt32) (own_shr1 (by omega)) rfl ?_
  exact g_retI W rfl (Or.inl rfl) rfl d14_4 (Nat.le_of_ble_eq_true rfl) (Nat.le_of_ble_eq_true rfl) ⟨rfl, rfl, rfl⟩
theorem d15_0 : decode jdk_52_method_94_code 0 = .ok (.iload_n 0, 1) := by decide +kernel
theorem d15_1 : decode jdk_52_method_94_code 1 = .ok (.iload_n 1, 1) := by decide +kernel
theorem d15_2 : decode jdk_52_method_94_code 2 = .ok (.aload_n 2, 1) := by decide +kernel
theorem d15_3 : decode jdk_52_method_94_code 3 = .ok (.invokestatic 48, 3) := by decide +kernel
theorem d15_6 : decode jdk_52_method_94_code 6 = .ok (.invokestatic 419, 3) := by decide +kernel
theorem d15_9 : decode jdk_52_method_94_code 9 = .ok (.pop, 1) := by decide +kernel
theorem d15_10 : decode jdk_52_method_94_code 10 = .ok (.return_, 1) := by decide +kernel
theorem ef_ucb (m : MethodId) (i : Int32) (j : Int32) (b : Addr) : entryFrame m #[(.int i), (.int j), (.ref b)] 3 = mkF m 0 #[.val (.int i), .val (.int j), .val (.ref b)] [] := by first | (simp [entryFrame, mkF, argsToLocals, Value.category]; done) | rfl
theorem pd_9 : parseMethodDescriptor "([B)I" = some ⟨[(.array .byte)], (some .int)⟩ := by decide +kernel
theorem pd_10 : parseMethodDescriptor "(III)I" = some ⟨[.int, .int, .int], (some .int)⟩ := by decide +kernel
set_option maxRecDepth 65536 in
set_option maxHeartbeats 40000000 in
theorem con_ucb {kn : Prop} (l : Launch) (Z : State) (a0 : Array Value) (E0 : Env0 Z a0) (O P : List Ent) (u : Addr) (vs : List Value) (h : Nat) (hv : vs.length = 2 * h) (hh : h ≤ 60000) (i j : Nat) (h1 : i + j ≤ h) :
    Con kn l Z EL0 (⟨"java/lang/StringUTF16", "checkBoundsOffCount", "(II[B)V"⟩ : MethodName) jdk_52_method_94_code 3 none [] ({ frames := 2, cells := 0, slots := 0, locals := 29 } : Room) #[.int i.toInt32, .int j.toInt32, .ref u] ((u, ArrC Z .byte vs) :: O) P (fun v0 O' P' => v0 = none ∧ (u, ArrC Z .byte vs) :: O = O' ∧ P = P') := by
  obtain ⟨hw, hs0, hEL, hS, ⟨cs0, hC0, hcs0⟩, ⟨fv, hFv, hfv⟩, hAD, hHI, hLO, hmore⟩ := id E0
  refine con_intro (plainFor_of_name pn_0) hEL (fun m => ef_ucb m _ _ _) ?_
  intro p e s m below meth c T W hnm
  refine g_iloadN W d15_0 (q := 1) rfl rfl ?_
  refine g_iloadN W d15_1 (q := 2) rfl rfl ?_
  refine g_aloadN W d15_2 (q := 3) rfl rfl rfl ?_
  refine g_static W (con_ulenO l Z a0 E0 O P u vs h hv hh) (argsL := [(.ref u)]) (rest := [(.int j.toInt32), (.int i.toInt32)]) rfl rfl pd_9 rfl (own_w hw 300 rfl) (own_w hw 301 rfl) (own_w hw 18 rfl) (own_w hw 302 rfl) (by decide) d15_3 (q := 6) rfl rfl (Nat.le_of_ble_eq_true rfl) (Nat.le_of_ble_eq_true rfl) (Nat.le_of_ble_eq_true rfl) (Nat.le_of_ble_eq_true rfl) ?_
  rintro _ _ _ T ⟨rfl, rfl, rfl⟩ W
  refine g_static W (con_scb l Z a0 E0 _ P i j h h1 hh) (argsL := [(.int i.toInt32), (.int j.toInt32), (.int h.toInt32)]) (rest := []) rfl rfl pd_10 rfl (own_w hw 303 rfl) (own_w hw 304 rfl) (own_w hw 3 rfl) (own_w hw 305 rfl) (by decide) d15_6 (q := 9) rfl rfl (Nat.le_of_ble_eq_true rfl) (Nat.le_of_ble_eq_true rfl) (Nat.le_of_ble_eq_true rfl) (Nat.le_of_ble_eq_true rfl) ?_
  rintro _ _ _ T ⟨rfl, rfl, rfl⟩ W
  refine g_pop W d15_9 (q := 10) rfl rfl ?_
  exact g_retV W rfl d15_10 (Nat.le_of_ble_eq_true rfl) (Nat.le_of_ble_eq_true rfl) ⟨rfl, rfl, rfl⟩
theorem d16_0 : decode jdk_52_method_86_code 0 = .ok (.iload_n 3, 1) := by decide +kernel
theorem d16_1 : decode jdk_52_method_86_code 1 = .ok (.iload 4, 2) := by decide +kernel
theorem d16_3 : decode jdk_52_method_86_code 3 = .ok (.aload_n 2, 1) := by decide +kernel
theorem d16_4 : decode jdk_52_method_86_code 4 = .ok (.invokestatic 173, 3) := by decide +kernel
theorem d16_7 : decode jdk_52_method_86_code 7 = .ok (.iconst 0, 1) := by decide +kernel
theorem d16_8 : decode jdk_52_method_86_code 8 = .ok (.istore 5, 2) := by decide +kernel
theorem d16_10 : decode jdk_52_method_86_code 10 = .ok (.iload 5, 2) := by decide +kernel
theorem d16_12 : decode jdk_52_method_86_code 12 = .ok (.iload 4, 2) := by decide +kernel
theorem d16_14 : decode jdk_52_method_86_code 14 = .ok (.if_icmp .ge 27, 3) := by decide +kernel
theorem d16_17 : decode jdk_52_method_86_code 17 = .ok (.aload_n 2, 1) := by decide +kernel
theorem d16_18 : decode jdk_52_method_86_code 18 = .ok (.iload_n 3, 1) := by decide +kernel
theorem d16_19 : decode jdk_52_method_86_code 19 = .ok (.iinc 3 1, 3) := by decide +kernel
theorem d16_22 : decode jdk_52_method_86_code 22 = .ok (.aload_n 0, 1) := by decide +kernel
theorem d16_23 : decode jdk_52_method_86_code 23 = .ok (.iload_n 1, 1) := by decide +kernel
theorem d16_24 : decode jdk_52_method_86_code 24 = .ok (.iinc 1 1, 3) := by decide +kernel
theorem d16_27 : decode jdk_52_method_86_code 27 = .ok (.baload, 1) := by decide +kernel
theorem d16_28 : decode jdk_52_method_86_code 28 = .ok (.sipush 255, 3) := by decide +kernel
theorem d16_31 : decode jdk_52_method_86_code 31 = .ok (.iand, 1) := by decide +kernel
theorem d16_32 : decode jdk_52_method_86_code 32 = .ok (.invokestatic 111, 3) := by decide +kernel
theorem d16_35 : decode jdk_52_method_86_code 35 = .ok (.iinc 5 1, 3) := by decide +kernel
theorem d16_38 : decode jdk_52_method_86_code 38 = .ok (.goto (-28), 3) := by decide +kernel
theorem d16_41 : decode jdk_52_method_86_code 41 = .ok (.return_, 1) := by decide +kernel
set_option maxRecDepth 65536 in
set_option maxHeartbeats 40000000 in
theorem uinf_loop {kn : Prop} {p : Program} {l : Launch} {e : Env} {s : State} {m : MethodId} {args : Array Value} {below : List Frame} {meth : Method} {c : Code} {Z : State} {a0 : Array Value} {P : List Ent} (E0 : Env0 Z a0) {O : List Ent} {Q : Option Value → List Ent → List Ent → Prop} (a u : Addr) (ps ds : List Int32) (r0 r : List Value) (hsrc : Src O P (a, ArrC Z .byte (enc ds ++ r0))) (hlat : ∀ d ∈ ds, 0 ≤ d.toInt ∧ d.toInt ≤ 255) (hr : 2 * ds.length ≤ r.length) (hl : ps.length + ds.length ≤ 20000) (hr2 : r.length ≤ 100000) (hQ : Q none ((u, ArrC Z .byte (enc16 (ps ++ ds) ++ r.drop (2 * ds.length))) :: O) P) : ∀ (j i : Nat), i + j = ds.length → ∀ (T : State),
    Wk kn p l e ({ frames := 3, cells := 0, slots := 0, locals := 43 } : Room) s m args below meth c jdk_52_method_86_code 6 none Z a0 EL0 "java/lang/StringUTF16" T ((u, ArrC Z .byte (enc16 (ps ++ ds.take i) ++ r.drop (2 * i))) :: O) P 0 0 → Go p e below s ({ frames := 3, cells := 0, slots := 0, locals := 43 } : Room) Z EL0 Q T (mkF m 10 #[.val (.ref a), .val (.int i.toInt32), .val (.ref u), .val (.int (ps.length + i).toInt32), .val (.int ds.length.toInt32), .val (.int i.toInt32)] []) := by
  obtain ⟨hw, hs0, hEL, hS, ⟨cs0, hC0, hcs0⟩, ⟨fv, hFv, hfv⟩, hAD, hHI, hLO, hmore⟩ := id E0
  have hlim : ∀ i, i < ds.length → (enc16 (ps ++ ds.take i) ++ r.drop (2 * i)).length < 2 ^ 30 := fun i hi => by rw [List.length_append, enc16_len, List.length_append, List.length_take, List.length_drop]; omega
  intro j
  induction j with
  | zero =>
    intro i hi T W
    have e : i = ds.length := by omega
    subst e
    rw [List.take_length] at W
    refine g_iload W d16_10 (q := 12) rfl rfl ?_
    refine g_iload W d16_12 (q := 14) rfl rfl ?_
    refine g_icY W d16_14 (q := 41) (XT.ii_ge_t (fun z => absurd ((own_lt (by omega) (by omega)).mp z) (Nat.lt_irrefl _))) (by decide) (by decide) ?_
    exact g_retV W rfl d16_41 (Nat.le_of_ble_eq_true rfl) (Nat.le_of_ble_eq_true rfl) hQ
  | succ j ih =>
    intro i hi T W
    have hil : i < ds.length := by omega
    obtain ⟨d, hd⟩ : ∃ d, ds[i]? = some d := ⟨_, List.getElem?_eq_getElem hil⟩
    have hdr := hlat _ (List.mem_of_getElem? hd)
    have htl : (ps ++ ds.take i).length = ps.length + i := by rw [List.length_append, List.length_take]; omega
    have e3 : ps ++ ds.take (i + 1) = (ps ++ ds.take i) ++ [d] := by rw [List.take_add_one, hd, List.append_assoc]; rfl
    refine g_iload W d16_10 (q := 12) rfl rfl ?_
    refine g_iload W d16_12 (q := 14) rfl rfl ?_
    refine g_icN W d16_14 (q := 17) (XT.ii_ge_f ((own_lt (by omega) (by omega)).mpr hil)) rfl ?_
    refine g_aloadN W d16_17 (q := 18) rfl rfl rfl ?_
    refine g_iloadN W d16_18 (q := 19) rfl rfl ?_
    refine g_iinc W d16_19 (q := 22) (z := (ps.length + (i + 1)).toInt32) (L' := #[.val (.ref a), .val (.int i.toInt32), .val (.ref u), .val (.int (ps.length + (i + 1)).toInt32), .val (.int ds.length.toInt32), .val (.int i.toInt32)]) rfl (own_succ (by omega)) rfl rfl ?_
    refine g_aloadN W d16_22 (q := 23) rfl rfl rfl ?_
    refine g_iloadN W d16_23 (q := 24) rfl rfl ?_
    refine g_iinc W d16_24 (q := 27) (z := (i + 1).toInt32) (L' := #[.val (.ref a), .val (.int (i + 1).toInt32), .val (.ref u), .val (.int (ps.length + (i + 1)).toInt32), .val (.int ds.length.toInt32), .val (.int i.toInt32)]) rfl (own_succ (by omega)) rfl rfl ?_
    refine g_baload W (hsrc.at W) (own_nn (by omega)) (i := i) (own_clamp (by omega)) (v := .int d.toInt8.toInt32) (own_encAt hd) d16_27 (q := 28) rfl ?_
    refine g_sipush W (v := (255 : Int32)) d16_28 (q := 31) rfl rfl ?_
    refine g_iand W d16_31 (q := 32) (z := d) (own_b2c hdr) rfl ?_
    refine g_static W (con_putC l Z a0 E0 O P u _ (ps.length + i) d (by rw [List.length_append, enc16_len, htl, List.length_drop]; omega) (hlim i hil)) (argsL := [(.ref u), (.int (ps.length + i).toInt32), (.int d)]) (rest := []) rfl rfl pd_1 rfl (own_w hw 275 rfl) (own_w hw 276 rfl) (own_w hw 18 rfl) (own_w hw 277 rfl) (by decide) d16_32 (q := 35) rfl rfl (Nat.le_of_ble_eq_true rfl) (Nat.le_of_ble_eq_true rfl) (Nat.le_of_ble_eq_true rfl) (Nat.le_of_ble_eq_true rfl) ?_
    rintro _ _ _ T ⟨rfl, rfl, rfl⟩ W
    rw [← htl, own_put16 (by rw [List.length_drop]; omega), ← e3, List.drop_drop, show 2 * i + 2 = 2 * (i + 1) by omega] at W
    refine g_iinc W d16_35 (q := 38) (z := (i + 1).toInt32) (L' := #[.val (.ref a), .val (.int (i + 1).toInt32), .val (.ref u), .val (.int (ps.length + (i + 1)).toInt32), .val (.int ds.length.toInt32), .val (.int (i + 1).toInt32)]) rfl (own_succ (by omega)) rfl rfl ?_
    refine g_goto W d16_38 (q := 10) (by decide) (by decide) ?_
    exact ih (i + 1) (by omega) T W
theorem ef_uinf (m : MethodId) (a : Addr) (i : Int32) (u : Addr) (j : Int32) (h : Int32) : entryFrame m #[(.ref a), (.int i), (.ref u), (.int j), (.int h)] 6 = mkF m 0 #[.val (.ref a), .val (.int i), .val (.ref u), .val (.int j), .val (.int h), .unset] [] := by first | (simp [entryFrame, mkF, argsToLocals, Value.category]; done) | rfl
theorem pd_11 : parseMethodDescriptor "(II[B)V" = some ⟨[.int, .int, (.array .byte)], none⟩ := by decide +kernel
set_option maxRecDepth 65536 in
set_option maxHeartbeats 40000000 in
theorem con_uinf {kn : Prop} (l : Launch) (Z : State) (a0 : Array Value) (E0 : Env0 Z a0) (O P : List Ent) (a u : Addr) (ps ds : List Int32) (r0 r : List Value) (hsrc : Src O P (a, ArrC Z .byte (enc ds ++ r0))) (hlat : ∀ d ∈ ds, 0 ≤ d.toInt ∧ d.toInt ≤ 255) (hr : 2 * ds.length ≤ r.length) (hl : ps.length + ds.length ≤ 20000) (hr2 : r.length ≤ 100000) (h : Nat) (hh : 2 * ps.length + r.length = 2 * h) (hh2 : h ≤ 60000) :
    Con kn l Z EL0 (⟨"java/lang/StringUTF16", "inflate", "([BI[BII)V"⟩ : MethodName) jdk_52_method_86_code 6 none [] ({ frames := 3, cells := 0, slots := 0, locals := 43 } : Room) #[.ref a, .int (0 : Int32), .ref u, .int ps.length.toInt32, .int ds.length.toInt32] ((u, ArrC Z .byte (enc16 ps ++ r)) :: O) P (fun v0 O' P' => v0 = none ∧ O' = (u, ArrC Z .byte (enc16 (ps ++ ds) ++ r.drop (2 * ds.length))) :: O ∧ P = P') := by
  obtain ⟨hw, hs0, hEL, hS, ⟨cs0, hC0, hcs0⟩, ⟨fv, hFv, hfv⟩, hAD, hHI, hLO, hmore⟩ := id E0
  refine con_intro (plainFor_of_name pn_0) hEL (fun m => ef_uinf m _ _ _ _ _) ?_
  intro p e s m below meth c T W hnm
  refine g_iloadN W d16_0 (q := 1) rfl rfl ?_
  refine g_iload W d16_1 (q := 3) rfl rfl ?_
  refine g_aloadN W d16_3 (q := 4) rfl rfl rfl ?_
  refine g_static W (con_ucb l Z a0 E0 O P u _ h (by rw [List.length_append, enc16_len]; omega) hh2 ps.length ds.length (by omega)) (argsL := [(.int ps.length.toInt32), (.int ds.length.toInt32), (.ref u)]) (rest := []) rfl rfl pd_11 rfl (own_w hw 297 rfl) (own_w hw 298 rfl) (own_w hw 18 rfl) (own_w hw 299 rfl) (by decide) d16_4 (q := 7) rfl rfl (Nat.le_of_ble_eq_true rfl) (Nat.le_of_ble_eq_true rfl) (Nat.le_of_ble_eq_true rfl) (Nat.le_of_ble_eq_true rfl) ?_
  rintro _ _ _ T ⟨rfl, rfl, rfl⟩ W
  refine g_iconst W (v := (0 : Int32)) d16_7 (q := 8) rfl rfl ?_
  refine g_istore W d16_8 (q := 10) (L' := #[.val (.ref a), .val (.int (0 : Int32)), .val (.ref u), .val (.int ps.length.toInt32), .val (.int ds.length.toInt32), .val (.int (0 : Int32))]) rfl rfl ?_
  have e0 : enc16 ps ++ r = enc16 (ps ++ ds.take 0) ++ r.drop (2 * 0) := by rw [List.take_zero, List.append_nil, Nat.mul_zero, List.drop_zero]
  rw [e0] at W
  exact uinf_loop E0 a u ps ds r0 r hsrc hlat hr hl hr2 ⟨rfl, rfl, rfl⟩ ds.length 0 (Nat.zero_add _) T W
theorem d17_0 : decode jdk_43_method_50_code 0 = .ok (.aload_n 0, 1) := by decide +kernel
theorem d17_1 : decode jdk_43_method_50_code 1 = .ok (.iload_n 1, 1) := by decide +kernel
theorem d17_2 : decode jdk_43_method_50_code 2 = .ok (.aload_n 2, 1) := by decide +kernel
theorem d17_3 : decode jdk_43_method_50_code 3 = .ok (.iload_n 3, 1) := by decide +kernel
theorem d17_4 : decode jdk_43_method_50_code 4 = .ok (.iload 4, 2) := by decide +kernel
theorem d17_6 : decode jdk_43_method_50_code 6 = .ok (.invokestatic 240, 3) := by decide +kernel
theorem d17_9 : decode jdk_43_method_50_code 9 = .ok (.return_, 1) := by decide +kernel
theorem ef_linf (m : MethodId) (a : Addr) (i : Int32) (u : Addr) (j : Int32) (h : Int32) : entryFrame m #[(.ref a), (.int i), (.ref u), (.int j), (.int h)] 5 = mkF m 0 #[.val (.ref a), .val (.int i), .val (.ref u), .val (.int j), .val (.int h)] [] := by first | (simp [entryFrame, mkF, argsToLocals, Value.category]; done) | rfl
theorem pd_12 : parseMethodDescriptor "([BI[BII)V" = some ⟨[(.array .byte), .int, (.array .byte), .int, .int], none⟩ := by decide +kernel
theorem pn_5 : plainName "java/lang/StringLatin1" = true := by first | (simp [plainName, overriddenIn]; done) | decide +kernel
set_option maxRecDepth 65536 in
set_option maxHeartbeats 40000000 in
theorem con_linf {kn : Prop} (l : Launch) (Z : State) (a0 : Array Value) (E0 : Env0 Z a0) (O P : List Ent) (a u : Addr) (ps ds : List Int32) (r0 r : List Value) (hsrc : Src O P (a, ArrC Z .byte (enc ds ++ r0))) (hlat : ∀ d ∈ ds, 0 ≤ d.toInt ∧ d.toInt ≤ 255) (hr : 2 * ds.length ≤ r.length) (hl : ps.length + ds.length ≤ 20000) (hr2 : r.length ≤ 100000) (h : Nat) (hh : 2 * ps.length + r.length = 2 * h) (hh2 : h ≤ 60000) :
    Con kn l Z EL0 (⟨"java/lang/StringLatin1", "inflate", "([BI[BII)V"⟩ : MethodName) jdk_43_method_50_code 5 none [] ({ frames := 4, cells := 0, slots := 0, locals := 60 } : Room) #[.ref a, .int (0 : Int32), .ref u, .int ps.length.toInt32, .int ds.length.toInt32] ((u, ArrC Z .byte (enc16 ps ++ r)) :: O) P (fun v0 O' P' => v0 = none ∧ O' = (u, ArrC Z .byte (enc16 (ps ++ ds) ++ r.drop (2 * ds.length))) :: O ∧ P = P') := by
  obtain ⟨hw, hs0, hEL, hS, ⟨cs0, hC0, hcs0⟩, ⟨fv, hFv, hfv⟩, hAD, hHI, hLO, hmore⟩ := id E0
  refine con_intro (plainFor_of_name pn_5) hEL (fun m => ef_linf m _ _ _ _ _) ?_
  intro p e s m below meth c T W hnm
  refine g_aloadN W d17_0 (q := 1) rfl rfl rfl ?_
  refine g_iloadN W d17_1 (q := 2) rfl rfl ?_
  refine g_aloadN W d17_2 (q := 3) rfl rfl rfl ?_
  refine g_iloadN W d17_3 (q := 4) rfl rfl ?_
  refine g_iload W d17_4 (q := 6) rfl rfl ?_
  refine g_static W (con_uinf l Z a0 E0 O P a u ps ds r0 r hsrc hlat hr hl hr2 h hh hh2) (argsL := [(.ref a), (.int (0 : Int32)), (.ref u), (.int ps.length.toInt32), (.int ds.length.toInt32)]) (rest := []) rfl rfl pd_12 rfl (own_w hw 294 rfl) (own_w hw 295 rfl) (own_w hw 18 rfl) (own_w hw 296 rfl) (by decide) d17_6 (q := 9) rfl rfl (Nat.le_of_ble_eq_true rfl) (Nat.le_of_ble_eq_true rfl) (Nat.le_of_ble_eq_true rfl) (Nat.le_of_ble_eq_true rfl) ?_
  rintro _ _ _ T ⟨rfl, rfl, rfl⟩ W
  exact g_retV W rfl d17_9 (Nat.le_of_ble_eq_true rfl) (Nat.le_of_ble_eq_true rfl) ⟨rfl, rfl, rfl⟩
theorem d18_0 : decode jdk_48_method_27_code 0 = .ok (.iload_n 0, 1) := by decide +kernel
theorem d18_1 : decode jdk_48_method_27_code 1 = .ok (.iload_n 1, 1) := by decide +kernel
theorem d18_2 : decode jdk_48_method_27_code 2 = .ok (.iload_n 2, 1) := by decide +kernel
theorem d18_3 : decode jdk_48_method_27_code 3 = .ok (.invokestatic 194, 3) := by decide +kernel
theorem d18_6 : decode jdk_48_method_27_code 6 = .ok (.iadd, 1) := by decide +kernel
theorem d18_7 : decode jdk_48_method_27_code 7 = .ok (.istore_n 3, 1) := by decide +kernel
theorem d18_8 : decode jdk_48_method_27_code 8 = .ok (.iconst 0, 1) := by decide +kernel
theorem d18_9 : decode jdk_48_method_27_code 9 = .ok (.iload_n 3, 1) := by decide +kernel
theorem d18_10 : decode jdk_48_method_27_code 10 = .ok (.if_icmp .ge 11, 3) := by decide +kernel
theorem d18_13 : decode jdk_48_method_27_code 13 = .ok (.iload_n 3, 1) := by decide +kernel
theorem d18_14 : decode jdk_48_method_27_code 14 = .ok (.ldc 200, 2) := by decide +kernel
theorem d18_16 : decode jdk_48_method_27_code 16 = .ok (.if_icmp .gt 5, 3) := by decide +kernel
theorem d18_19 : decode jdk_48_method_27_code 19 = .ok (.iload_n 3, 1) := by decide +kernel
theorem d18_20 : decode jdk_48_method_27_code 20 = .ok (.ireturn, 1) := by decide +kernel
theorem d18_21 : decode jdk_48_method_27_code 21 = .ok (.iload_n 0, 1) := by decide +kernel
theorem d18_22 : decode jdk_48_method_27_code 22 = .ok (.iload_n 1, 1) := by decide +kernel
theorem d18_26 : decode jdk_48_method_27_code 26 = .ok (.ireturn, 1) := by decide +kernel
theorem ef_nlen (m : MethodId) (i : Int32) (j : Int32) (h : Int32) : entryFrame m #[(.int i), (.int j), (.int h)] 4 = mkF m 0 #[.val (.int i), .val (.int j), .val (.int h), .unset] [] := by first | (simp [entryFrame, mkF, argsToLocals, Value.category]; done) | rfl
theorem pd_13 : parseMethodDescriptor "(II)I" = some ⟨[.int, .int], (some .int)⟩ := by decide +kernel
theorem pn_6 : plainName "jdk/internal/util/ArraysSupport" = true := by first | (simp [plainName, overriddenIn]; done) | decide +kernel
set_option maxRecDepth 65536 in
set_option maxHeartbeats 40000000 in
theorem con_nlen {kn : Prop} (l : Launch) (Z : State) (a0 : Array Value) (E0 : Env0 Z a0) (O P : List Ent) (i j h : Nat) (h0 : 0 < i + max j h) (h1 : i + max j h ≤ 200000) :
    Con kn l Z EL0 (⟨"jdk/internal/util/ArraysSupport", "newLength", "(III)I"⟩ : MethodName) jdk_48_method_27_code 4 (some .int) [] ({ frames := 1, cells := 0, slots := 0, locals := 14 } : Room) #[.int i.toInt32, .int j.toInt32, .int h.toInt32] O P (fun v O' P' => v = some (.int (i + max j h).toInt32) ∧ O = O' ∧ P = P') := by
  obtain ⟨hw, hs0, hEL, hS, ⟨cs0, hC0, hcs0⟩, ⟨fv, hFv, hfv⟩, hAD, hHI, hLO, hmore⟩ := id E0
  refine con_intro (plainFor_of_name pn_6) hEL (fun m => ef_nlen m _ _ _) ?_
  intro p e s m below meth c T W hnm
  refine g_iloadN W d18_0 (q := 1) rfl rfl ?_
  refine g_iloadN W d18_1 (q := 2) rfl rfl ?_
  refine g_iloadN W d18_2 (q := 3) rfl rfl ?_
  refine g_static W (con_max l Z a0 E0 O P j h (by omega) (by omega)) (argsL := [(.int j.toInt32), (.int h.toInt32)]) (rest := [(.int i.toInt32)]) rfl rfl pd_13 rfl (own_w hw 116 rfl) (own_w hw 117 rfl) (own_w hw 118 rfl) (own_w hw 119 rfl) (by decide) d18_3 (q := 6) rfl rfl (Nat.le_of_ble_eq_true rfl) (Nat.le_of_ble_eq_true rfl) (Nat.le_of_ble_eq_true rfl) (Nat.le_of_ble_eq_true rfl) ?_
  rintro _ _ _ T ⟨rfl, rfl, rfl⟩ W
  refine g_iadd W d18_6 (q := 7) (z := (i + max j h).toInt32) (own_add (by omega)) rfl ?_
  refine g_istoreN W d18_7 (q := 8) (L' := #[.val (.int i.toInt32), .val (.int j.toInt32), .val (.int h.toInt32), .val (.int (i + max j h).toInt32)]) rfl rfl ?_
  refine g_iconst W (v := (0 : Int32)) d18_8 (q := 9) rfl rfl ?_
  refine g_iloadN W d18_9 (q := 10) rfl rfl ?_
  refine g_icN W d18_10 (q := 13) (XT.ii_ge_f ((own_lt (i := 0) (by omega) (by omega)).mpr h0)) rfl ?_
  refine g_iloadN W d18_13 (q := 14) rfl rfl ?_
  refine g_ldcI W (v := (2147483639 : Int32)) (own_w hw 120 rfl) d18_14 (q := 16) rfl ?_
  refine g_icN W d18_16 (q := 19) (XT.ii_gt_f (fun z => absurd ((own_lt (i := 2147483639) (by omega) (by omega)).mp z) (by omega))) rfl ?_
  refine g_iloadN W d18_19 (q := 20) rfl rfl ?_
  exact g_retI W rfl (Or.inl rfl) rfl d18_20 (Nat.le_of_ble_eq_true rfl) (Nat.le_of_ble_eq_true rfl) ⟨rfl, rfl, rfl⟩
theorem d19_0 : decode jdk_65_method_121_code 0 = .ok (.iload_n 1, 1) := by decide +kernel
theorem d19_1 : decode jdk_65_method_121_code 1 = .ok (.aload_n 0, 1) := by decide +kernel
theorem d19_2 : decode jdk_65_method_121_code 2 = .ok (.arraylength, 1) := by decide +kernel
theorem d19_3 : decode jdk_65_method_121_code 3 = .ok (.if_icmp .ne 11, 3) := by decide +kernel
theorem d19_6 : decode jdk_65_method_121_code 6 = .ok (.aload_n 0, 1) := by decide +kernel
theorem d19_13 : decode jdk_65_method_121_code 13 = .ok (.areturn, 1) := by decide +kernel
theorem d19_14 : decode jdk_65_method_121_code 14 = .ok (.iload_n 1, 1) := by decide +kernel
theorem d19_15 : decode jdk_65_method_121_code 15 = .ok (.newarray .byte, 2) := by decide +kernel
theorem d19_17 : decode jdk_65_method_121_code 17 = .ok (.astore_n 2, 1) := by decide +kernel
theorem d19_18 : decode jdk_65_method_121_code 18 = .ok (.aload_n 0, 1) := by decide +kernel
theorem d19_19 : decode jdk_65_method_121_code 19 = .ok (.iconst 0, 1) := by decide +kernel
theorem d19_20 : decode jdk_65_method_121_code 20 = .ok (.aload_n 2, 1) := by decide +kernel
theorem d19_21 : decode jdk_65_method_121_code 21 = .ok (.iconst 0, 1) := by decide +kernel
theorem d19_22 : decode jdk_65_method_121_code 22 = .ok (.aload_n 0, 1) := by decide +kernel
theorem d19_23 : decode jdk_65_method_121_code 23 = .ok (.arraylength, 1) := by decide +kernel
theorem d19_24 : decode jdk_65_method_121_code 24 = .ok (.iload_n 1, 1) := by decide +kernel
theorem d19_25 : decode jdk_65_method_121_code 25 = .ok (.invokestatic 304, 3) := by decide +kernel
theorem d19_28 : decode jdk_65_method_121_code 28 = .ok (.invokestatic 150, 3) := by decide +kernel
theorem d19_31 : decode jdk_65_method_121_code 31 = .ok (.aload_n 2, 1) := by decide +kernel
theorem d19_32 : decode jdk_65_method_121_code 32 = .ok (.areturn, 1) := by decide +kernel
theorem ef_cpo (m : MethodId) (v : Addr) (i : Int32) : entryFrame m #[(.ref v), (.int i)] 3 = mkF m 0 #[.val (.ref v), .val (.int i), .unset] [] := by first | (simp [entryFrame, mkF, argsToLocals, Value.category]; done) | rfl
theorem pn_7 : plainName "java/util/Arrays" = true := by first | (simp [plainName, overriddenIn]; done) | decide +kernel
set_option maxRecDepth 65536 in
set_option maxHeartbeats 40000000 in
theorem con_cpo {kn : Prop} (l : Launch) (Z : State) (a0 : Array Value) (E0 : Env0 Z a0) (O P : List Ent) (v : Addr) (vs : List Value) (n N : Nat) (hn : vs.length < n) (hnN : n ≤ N) (hN : N ≤ 60000) :
    Con kn l Z EL0 (⟨"java/util/Arrays", "copyOf", "([BI)[B"⟩ : MethodName) jdk_65_method_121_code 3 (some (.array .byte)) [] ({ frames := 1, cells := 1, slots := N, locals := 40 } : Room) #[.ref v, .int n.toInt32] ((v, ArrC Z .byte vs) :: O) P (fun v' O' P' => ∃ u, v' = some (.ref u) ∧ O' = (u, ArrC Z .byte (vs ++ List.replicate (n - vs.length) (.int 0))) :: (v, ArrC Z .byte vs) :: O ∧ P = P') := by
  obtain ⟨hw, hs0, hEL, hS, ⟨cs0, hC0, hcs0⟩, ⟨fv, hFv, hfv⟩, hAD, hHI, hLO, hmore⟩ := id E0
  refine con_intro (plainFor_of_name pn_7) hEL (fun m => ef_cpo m _ _) ?_
  intro p e s m below meth c T W hnm
  refine g_iloadN W d19_0 (q := 1) rfl rfl ?_
  refine g_aloadN W d19_1 (q := 2) rfl rfl rfl ?_
  refine g_len W (W.ow (i := 0) rfl) (z := vs.length.toInt32) rfl d19_2 (q := 3) rfl ?_
  refine g_icY W d19_3 (q := 14) (XT.ii_ne_t (fun z => absurd ((own_eq (by omega) (by omega)).mp z) (by omega))) (by decide) (by decide) ?_
  refine g_iloadN W d19_14 (q := 15) rfl rfl ?_
  refine g_newA W (ty := .byte) (cap := N) (vs := List.replicate n (.int 0)) rfl (own_w hw 20 rfl) (own_nn (by omega)) (by rw [own_clamp (by omega)]; exact hnN) (by omega) rfl (by rw [own_clamp (by omega)]; rfl) d19_15 (q := 17) rfl (Nat.le_of_ble_eq_true rfl) (by dsimp only; omega) fun u T W => ?_
  refine g_astoreN W d19_17 (q := 18) (L' := #[.val (.ref v), .val (.int n.toInt32), .val (.ref u)]) rfl rfl rfl ?_
  refine g_aloadN W d19_18 (q := 19) rfl rfl rfl ?_
  refine g_iconst W (v := (0 : Int32)) d19_19 (q := 20) rfl rfl ?_
  refine g_aloadN W d19_20 (q := 21) rfl rfl rfl ?_
  refine g_iconst W (v := (0 : Int32)) d19_21 (q := 22) rfl rfl ?_
  refine g_aloadN W d19_22 (q := 23) rfl rfl rfl ?_
  refine g_len W (W.ow (i := 1) rfl) (z := vs.length.toInt32) rfl d19_23 (q := 24) rfl ?_
  refine g_iloadN W d19_24 (q := 25) rfl rfl ?_
  refine g_static W (con_min l Z a0 E0 _ P vs.length n (by omega) (by omega)) (argsL := [(.int vs.length.toInt32), (.int n.toInt32)]) (rest := [(.int (0 : Int32)), (.ref u), (.int (0 : Int32)), (.ref v)]) rfl rfl pd_13 rfl (own_w hw 126 rfl) (own_w hw 127 rfl) (own_w hw 118 rfl) (own_w hw 128 rfl) (by decide) d19_25 (q := 28) rfl rfl (Nat.le_of_ble_eq_true rfl) (Nat.le_of_ble_eq_true rfl) (Nat.le_of_ble_eq_true rfl) (by dsimp only; omega) ?_
  rintro _ _ _ T ⟨rfl, rfl, rfl⟩ W
  refine g_copy W (i := 0) (sp := 0) (dp := 0) (nn := vs.length) (W.ow (i := 1) rfl) rfl rfl rfl rfl (by rw [show min vs.length n = vs.length by omega]) (by omega) (by rw [List.length_replicate]; omega) (own_w hw 129 rfl) (own_w hw 105 rfl) (own_w hw 103 rfl) (own_w hw 104 rfl) d19_28 (q := 31) rfl rfl (Nat.le_of_ble_eq_true rfl) (Nat.le_of_ble_eq_true rfl) (vd' := vs ++ List.replicate (n - vs.length) (.int 0)) (own_cpo (by omega)) (O' := (u, ArrC Z .byte (vs ++ List.replicate (n - vs.length) (.int 0))) :: (v, ArrC Z .byte vs) :: O) rfl fun T W => ?_
  refine g_aloadN W d19_31 (q := 32) rfl rfl rfl ?_
  exact g_retA W rfl rfl rfl d19_32 (Nat.le_of_ble_eq_true rfl) (by dsimp only; omega) ⟨u, rfl, rfl, rfl⟩
theorem d20_0 : decode jdk_42_method_152_code 0 = .ok (.getstatic 38, 3) := by decide +kernel
theorem d20_3 : decode jdk_42_method_152_code 3 = .ok (.ifCond .eq 10, 3) := by decide +kernel
theorem d20_6 : decode jdk_42_method_152_code 6 = .ok (.aload_n 0, 1) := by decide +kernel
theorem d20_7 : decode jdk_42_method_152_code 7 = .ok (.getfield 15, 3) := by decide +kernel
theorem d20_10 : decode jdk_42_method_152_code 10 = .ok (.goto 4, 3) := by decide +kernel
theorem d20_13 : decode jdk_42_method_152_code 13 = .ok (.iconst 1, 1) := by decide +kernel
theorem d20_14 : decode jdk_42_method_152_code 14 = .ok (.ireturn, 1) := by decide +kernel
theorem ef_coder (m : MethodId) (x : Addr) : entryFrame m #[(.ref x)] 1 = mkF m 0 #[.val (.ref x)] [] := by first | (simp [entryFrame, mkF, argsToLocals, Value.category]; done) | rfl
set_option maxRecDepth 65536 in
set_option maxHeartbeats 40000000 in
theorem con_coder {kn : Prop} (l : Launch) (Z : State) (a0 : Array Value) (E0 : Env0 Z a0) (O P : List Ent) (x b : Addr) (cd : Int32) (hcd : narrow .byte (.int cd) = .int cd) (hx : (x, ObjC Z "java/lang/String" shStr [.ref b, .int cd]) ∈ P) :
    Con kn l Z EL0 (⟨"java/lang/String", "coder", "()B"⟩ : MethodName) jdk_42_method_152_code 1 (some .byte) [] ({ frames := 0, cells := 0, slots := 0, locals := 0 } : Room) #[.ref x] O P (fun v O' P' => v = some (.int cd) ∧ O = O' ∧ P = P') := by
  obtain ⟨hw, hs0, hEL, hS, ⟨cs0, hC0, hcs0⟩, ⟨fv, hFv, hfv⟩, hAD, hHI, hLO, hmore⟩ := id E0
  refine con_intro (plainFor_of_name pn_1) hEL (fun m => ef_coder m _) ?_
  intro p e s m below meth c T W hnm
  refine g_getS W hC0 (own_w hw 15 rfl) d20_0 (q := 3) rfl fun T W => ?_
  refine g_ifN W d20_3 (q := 6) (XT.i0_eq_f hcs0) rfl ?_
  refine g_aloadN W d20_6 (q := 7) rfl rfl rfl ?_
  refine g_getF W (W.rd hx) (i := 1) (v := .int cd) rfl rfl (own_w hw 27 rfl) d20_7 (q := 10) rfl fun T W => ?_
  refine g_goto W d20_10 (q := 14) (by decide) (by decide) ?_
  exact g_retI W rfl (Or.inr (Or.inr (Or.inl rfl))) hcd d20_14 (Nat.le_of_ble_eq_true rfl) (Nat.le_of_ble_eq_true rfl) ⟨rfl, rfl, rfl⟩
theorem d21_0 : decode jdk_42_method_54_code 0 = .ok (.aload_n 0, 1) := by decide +kernel
theorem d21_1 : decode jdk_42_method_54_code 1 = .ok (.getfield 9, 3) := by decide +kernel
theorem d21_4 : decode jdk_42_method_54_code 4 = .ok (.arraylength, 1) := by decide +kernel
theorem d21_5 : decode jdk_42_method_54_code 5 = .ok (.aload_n 0, 1) := by decide +kernel
theorem d21_6 : decode jdk_42_method_54_code 6 = .ok (.invokevirtual 335, 3) := by decide +kernel
theorem d21_9 : decode jdk_42_method_54_code 9 = .ok (.ishr, 1) := by decide +kernel
theorem d21_10 : decode jdk_42_method_54_code 10 = .ok (.ireturn, 1) := by decide +kernel
theorem ef_slen (m : MethodId) (x : Addr) : entryFrame m #[(.ref x)] 1 = mkF m 0 #[.val (.ref x)] [] := by first | (simp [entryFrame, mkF, argsToLocals, Value.category]; done) | rfl
theorem pd_14 : parseMethodDescriptor "()B" = some ⟨[], (some .byte)⟩ := by decide +kernel
set_option maxRecDepth 65536 in
set_option maxHeartbeats 40000000 in
theorem con_slen {kn : Prop} (l : Launch) (Z : State) (a0 : Array Value) (E0 : Env0 Z a0) (O P : List Ent) (x : Addr) (cs : List Int32) (hlen : cs.length ≤ 60000) (hs : IsStr Z P x cs) :
    Con kn l Z EL0 (⟨"java/lang/String", "length", "()I"⟩ : MethodName) jdk_42_method_54_code 1 (some .int) [] ({ frames := 1, cells := 0, slots := 0, locals := 13 } : Room) #[.ref x] O P (fun v O' P' => v = some (.int cs.length.toInt32) ∧ O = O' ∧ P = P') := by
  obtain ⟨hw, hs0, hEL, hS, ⟨cs0, hC0, hcs0⟩, ⟨fv, hFv, hfv⟩, hAD, hHI, hLO, hmore⟩ := id E0
  refine con_intro (plainFor_of_name pn_1) hEL (fun m => ef_slen m _) ?_
  intro p e s m below meth c T W hnm
  obtain ⟨b, ⟨hlat, hx, hb'⟩ | ⟨hlat, hx, hb'⟩⟩ := id hs
  · refine g_aloadN W d21_0 (q := 1) rfl rfl rfl ?_
    refine g_getF W (W.rd hx) (i := 0) (v := .ref b) rfl rfl (own_w hw 29 rfl) d21_1 (q := 4) rfl fun T W => ?_
    refine g_len W (W.rd hb') (z := cs.length.toInt32) (by rw [enc_len]) d21_4 (q := 5) rfl ?_
    refine g_aloadN W d21_5 (q := 6) rfl rfl rfl ?_
    refine g_virtual W (con_coder l Z a0 E0 O P x b (0 : Int32) rfl hx) (own_ex (W.rd hx) fun _ h => h.1) (argsL := []) (rest := [(.int cs.length.toInt32)]) rfl rfl pd_14 rfl (own_w hw 74 rfl) (own_w hw 75 rfl) (own_w hw 77 rfl) (own_w hw 76 rfl) (own_w hw 3 rfl) (own_w hw 78 rfl) (by decide) d21_6 (q := 9) rfl rfl (Nat.le_of_ble_eq_true rfl) (Nat.le_of_ble_eq_true rfl) (Nat.le_of_ble_eq_true rfl) (Nat.le_of_ble_eq_true rfl) ?_
    rintro _ _ _ T ⟨rfl, rfl, rfl⟩ W
    refine g_ishr W d21_9 (q := 10) (z := cs.length.toInt32) (own_shr0 _) rfl ?_
    exact g_retI W rfl (Or.inl rfl) rfl d21_10 (Nat.le_of_ble_eq_true rfl) (Nat.le_of_ble_eq_true rfl) ⟨rfl, rfl, rfl⟩
  · refine g_aloadN W d21_0 (q := 1) rfl rfl rfl ?_
    refine g_getF W (W.rd hx) (i := 0) (v := .ref b) rfl rfl (own_w hw 29 rfl) d21_1 (q := 4) rfl fun T W => ?_
    refine g_len W (W.rd hb') (z := (2 * cs.length).toInt32) (by rw [enc16_len]) d21_4 (q := 5) rfl ?_
    refine g_aloadN W d21_5 (q := 6) rfl rfl rfl ?_
    refine g_virtual W (con_coder l Z a0 E0 O P x b (1 : Int32) rfl hx) (own_ex (W.rd hx) fun _ h => h.1) (argsL := []) (rest := [(.int (2 * cs.length).toInt32)]) rfl rfl pd_14 rfl (own_w hw 74 rfl) (own_w hw 75 rfl) (own_w hw 77 rfl) (own_w hw 76 rfl) (own_w hw 3 rfl) (own_w hw 78 rfl) (by decide) d21_6 (q := 9) rfl rfl (Nat.le_of_ble_eq_true rfl) (Nat.le_of_ble_eq_true rfl) (Nat.le_of_ble_eq_true rfl) (Nat.le_of_ble_eq_true rfl) ?_
    rintro _ _ _ T ⟨rfl, rfl, rfl⟩ W
    refine g_ishr W d21_9 (q := 10) (z := cs.length.toInt32) (own_shr1 (by omega)) rfl ?_
    exact g_retI W rfl (Or.inl rfl) rfl d21_10 (Nat.le_of_ble_eq_true rfl) (Nat.le_of_ble_eq_true rfl) ⟨rfl, rfl, rfl⟩
set_option maxRecDepth 65536 in
set_option maxHeartbeats 40000000 in
theorem con_slenX0 {kn : Prop} (l : Launch) (Z : State) (a0 : Array Value) (E0 : Env0 Z a0) (O P : List Ent) (y b1 : Addr) (ds : List Int32) (hy1 : (y, ObjC Z "java/lang/String" shStr [.ref b1, .int (0 : Int32)]) ∈ P) (hb1 : (b1, ArrC Z .byte (enc ds)) ∈ P) (hlen : ds.length ≤ 60000) :
    Con kn l Z EL0 (⟨"java/lang/String", "length", "()I"⟩ : MethodName) jdk_42_method_54_code 1 (some .int) [] ({ frames := 1, cells := 0, slots := 0, locals := 13 } : Room) #[.ref y] O P (fun v O' P' => v = some (.int ds.length.toInt32) ∧ O = O' ∧ P = P') := by
  obtain ⟨hw, hs0, hEL, hS, ⟨cs0, hC0, hcs0⟩, ⟨fv, hFv, hfv⟩, hAD, hHI, hLO, hmore⟩ := id E0
  refine con_intro (plainFor_of_name pn_1) hEL (fun m => ef_slen m _) ?_
  intro p e s m below meth c T W hnm
  refine g_aloadN W d21_0 (q := 1) rfl rfl rfl ?_
  refine g_getF W (W.rd hy1) (i := 0) (v := .ref b1) rfl rfl (own_w hw 29 rfl) d21_1 (q := 4) rfl fun T W => ?_
  refine g_len W (W.rd hb1) (z := (ds.length).toInt32) (by rw [enc_len]) d21_4 (q := 5) rfl ?_
  refine g_aloadN W d21_5 (q := 6) rfl rfl rfl ?_
  refine g_virtual W (con_coder l Z a0 E0 O P y b1 (0 : Int32) rfl hy1) (own_ex (W.rd hy1) fun _ h => h.1) (argsL := []) (rest := [(.int (ds.length).toInt32)]) rfl rfl pd_14 rfl (own_w hw 74 rfl) (own_w hw 75 rfl) (own_w hw 77 rfl) (own_w hw 76 rfl) (own_w hw 3 rfl) (own_w hw 78 rfl) (by decide) d21_6 (q := 9) rfl rfl (Nat.le_of_ble_eq_true rfl) (Nat.le_of_ble_eq_true rfl) (Nat.le_of_ble_eq_true rfl) (Nat.le_of_ble_eq_true rfl) ?_
  rintro _ _ _ T ⟨rfl, rfl, rfl⟩ W
  refine g_ishr W d21_9 (q := 10) (z := ds.length.toInt32) (own_shr0 _) rfl ?_
  exact g_retI W rfl (Or.inl rfl) rfl d21_10 (Nat.le_of_ble_eq_true rfl) (Nat.le_of_ble_eq_true rfl) ⟨rfl, rfl, rfl⟩
set_option maxRecDepth 65536 in
set_option maxHeartbeats 40000000 in
theorem con_slenX1 {kn : Prop} (l : Launch) (Z : State) (a0 : Array Value) (E0 : Env0 Z a0) (O P : List Ent) (y b1 : Addr) (ds : List Int32) (hy1 : (y, ObjC Z "java/lang/String" shStr [.ref b1, .int (1 : Int32)]) ∈ P) (hb1 : (b1, ArrC Z .byte (enc16 ds)) ∈ P) (hlen : ds.length ≤ 60000) :
    Con kn l Z EL0 (⟨"java/lang/String", "length", "()I"⟩ : MethodName) jdk_42_method_54_code 1 (some .int) [] ({ frames := 1, cells := 0, slots := 0, locals := 13 } : Room) #[.ref y] O P (fun v O' P' => v = some (.int ds.length.toInt32) ∧ O = O' ∧ P = P') := by
  obtain ⟨hw, hs0, hEL, hS, ⟨cs0, hC0, hcs0⟩, ⟨fv, hFv, hfv⟩, hAD, hHI, hLO, hmore⟩ := id E0
  refine con_intro (plainFor_of_name pn_1) hEL (fun m => ef_slen m _) ?_
  intro p e s m below meth c T W hnm
  refine g_aloadN W d21_0 (q := 1) rfl rfl rfl ?_
  refine g_getF W (W.rd hy1) (i := 0) (v := .ref b1) rfl rfl (own_w hw 29 rfl) d21_1 (q := 4) rfl fun T W => ?_
  refine g_len W (W.rd hb1) (z := (2 * ds.length).toInt32) (by rw [enc16_len]) d21_4 (q := 5) rfl ?_
  refine g_aloadN W d21_5 (q := 6) rfl rfl rfl ?_
  refine g_virtual W (con_coder l Z a0 E0 O P y b1 (1 : Int32) rfl hy1) (own_ex (W.rd hy1) fun _ h => h.1) (argsL := []) (rest := [(.int (2 * ds.length).toInt32)]) rfl rfl pd_14 rfl (own_w hw 74 rfl) (own_w hw 75 rfl) (own_w hw 77 rfl) (own_w hw 76 rfl) (own_w hw 3 rfl) (own_w hw 78 rfl) (by decide) d21_6 (q := 9) rfl rfl (Nat.le_of_ble_eq_true rfl) (Nat.le_of_ble_eq_true rfl) (Nat.le_of_ble_eq_true rfl) (Nat.le_of_ble_eq_true rfl) ?_
  rintro _ _ _ T ⟨rfl, rfl, rfl⟩ W
  refine g_ishr W d21_9 (q := 10) (z := ds.length.toInt32) (own_shr1 (by omega)) rfl ?_
  exact g_retI W rfl (Or.inl rfl) rfl d21_10 (Nat.le_of_ble_eq_true rfl) (Nat.le_of_ble_eq_true rfl) ⟨rfl, rfl, rfl⟩
theorem d22_0 : decode jdk_68_method_10_code 0 = .ok (.aload_n 0, 1) := by decide +kernel
theorem d22_1 : decode jdk_68_method_10_code 1 = .ok (.getfield 15, 3) := by decide +kernel
theorem d22_4 : decode jdk_68_method_10_code 4 = .ok (.arraylength, 1) := by decide +kernel
theorem d22_5 : decode jdk_68_method_10_code 5 = .ok (.istore_n 2, 1) := by decide +kernel
theorem d22_6 : decode jdk_68_method_10_code 6 = .ok (.iload_n 1, 1) := by decide +kernel
theorem d22_7 : decode jdk_68_method_10_code 7 = .ok (.aload_n 0, 1) := by decide +kernel
theorem d22_8 : decode jdk_68_method_10_code 8 = .ok (.getfield 22, 3) := by decide +kernel
theorem d22_11 : decode jdk_68_method_10_code 11 = .ok (.ishl, 1) := by decide +kernel
theorem d22_12 : decode jdk_68_method_10_code 12 = .ok (.istore_n 3, 1) := by decide +kernel
theorem d22_13 : decode jdk_68_method_10_code 13 = .ok (.iload_n 3, 1) := by decide +kernel
theorem d22_14 : decode jdk_68_method_10_code 14 = .ok (.iload_n 2, 1) := by decide +kernel
theorem d22_15 : decode jdk_68_method_10_code 15 = .ok (.isub, 1) := by decide +kernel
theorem d22_16 : decode jdk_68_method_10_code 16 = .ok (.istore 4, 2) := by decide +kernel
theorem d22_18 : decode jdk_68_method_10_code 18 = .ok (.iload_n 2, 1) := by decide +kernel
theorem d22_19 : decode jdk_68_method_10_code 19 = .ok (.iload 4, 2) := by decide +kernel
theorem d22_21 : decode jdk_68_method_10_code 21 = .ok (.iload_n 2, 1) := by decide +kernel
theorem d22_22 : decode jdk_68_method_10_code 22 = .ok (.iconst 2, 1) := by decide +kernel
theorem d22_23 : decode jdk_68_method_10_code 23 = .ok (.aload_n 0, 1) := by decide +kernel
theorem d22_24 : decode jdk_68_method_10_code 24 = .ok (.getfield 22, 3) := by decide +kernel
theorem d22_27 : decode jdk_68_method_10_code 27 = .ok (.ishl, 1) := by decide +kernel
theorem d22_28 : decode jdk_68_method_10_code 28 = .ok (.iadd, 1) := by decide +kernel
theorem d22_29 : decode jdk_68_method_10_code 29 = .ok (.invokestatic 114, 3) := by decide +kernel
theorem d22_32 : decode jdk_68_method_10_code 32 = .ok (.istore 5, 2) := by decide +kernel
theorem d22_34 : decode jdk_68_method_10_code 34 = .ok (.iload 5, 2) := by decide +kernel
theorem d22_36 : decode jdk_68_method_10_code 36 = .ok (.ldc 39, 2) := by decide +kernel
theorem d22_38 : decode jdk_68_method_10_code 38 = .ok (.if_icmp .ne 13, 3) := by decide +kernel
theorem d22_44 : decode jdk_68_method_10_code 44 = .ok (.dup, 1) := by decide +kernel
theorem d22_50 : decode jdk_68_method_10_code 50 = .ok (.athrow, 1) := by decide +kernel
theorem d22_51 : decode jdk_68_method_10_code 51 = .ok (.iload 5, 2) := by decide +kernel
theorem d22_53 : decode jdk_68_method_10_code 53 = .ok (.aload_n 0, 1) := by decide +kernel
theorem d22_54 : decode jdk_68_method_10_code 54 = .ok (.getfield 22, 3) := by decide +kernel
theorem d22_57 : decode jdk_68_method_10_code 57 = .ok (.ishr, 1) := by decide +kernel
theorem d22_58 : decode jdk_68_method_10_code 58 = .ok (.ireturn, 1) := by decide +kernel
theorem ef_ncap (m : MethodId) (x : Addr) (i : Int32) : entryFrame m #[(.ref x), (.int i)] 6 = mkF m 0 #[.val (.ref x), .val (.int i), .unset, .unset, .unset, .unset] [] := by first | (simp [entryFrame, mkF, argsToLocals, Value.category]; done) | rfl
theorem pn_8 : plainName "java/lang/AbstractStringBuilder" = true := by first | (simp [plainName, overriddenIn]; done) | decide +kernel
set_option maxRecDepth 65536 in
set_option maxHeartbeats 40000000 in
theorem con_ncap0 {kn : Prop} (l : Launch) (Z : State) (a0 : Array Value) (E0 : Env0 Z a0) (O P : List Ent) (x v : Addr) (cs : List Int32) (r : List Value) (cap mn : Nat) (hc : cs.length + r.length = cap) (hm : cap < mn) (hm2 : mn ≤ 20000) :
    Con kn l Z EL0 (⟨"java/lang/AbstractStringBuilder", "newCapacity", "(I)I"⟩ : MethodName) jdk_68_method_10_code 6 (some .int) [] ({ frames := 2, cells := 0, slots := 0, locals := 29 } : Room) #[.ref x, .int mn.toInt32] ((v, ArrC Z .byte (enc cs ++ r)) :: (x, ObjC Z "java/lang/StringBuilder" shSB [.ref v, .int (0 : Int32), .int (cs).length.toInt32, .int 0]) :: O) P (fun v0 O' P' => v0 = some (.int (cap + max (mn - cap) (cap + 2)).toInt32) ∧ ((v, ArrC Z .byte (enc cs ++ r)) :: (x, ObjC Z "java/lang/StringBuilder" shSB [.ref v, .int (0 : Int32), .int (cs).length.toInt32, .int 0]) :: O) = O' ∧ P = P') := by
  obtain ⟨hw, hs0, hEL, hS, ⟨cs0, hC0, hcs0⟩, ⟨fv, hFv, hfv⟩, hAD, hHI, hLO, hmore⟩ := id E0
  refine con_intro (plainFor_of_name pn_8) hEL (fun m => ef_ncap m _ _) ?_
  intro p e s m below meth c T W hnm
  refine g_aloadN W d22_0 (q := 1) rfl rfl rfl ?_
  refine g_getF W (W.ow (i := 1) rfl) (i := 0) (v := .ref v) rfl rfl (own_w hw 54 rfl) d22_1 (q := 4) rfl fun T W => ?_
  refine g_len W (W.ow (i := 0) rfl) (z := (cap).toInt32) (by rw [List.length_append, enc_len, hc]) d22_4 (q := 5) rfl ?_
  refine g_istoreN W d22_5 (q := 6) (L' := #[.val (.ref x), .val (.int mn.toInt32), .val (.int (cap).toInt32), .unset, .unset, .unset]) rfl rfl ?_
  refine g_iloadN W d22_6 (q := 7) rfl rfl ?_
  refine g_aloadN W d22_7 (q := 8) rfl rfl rfl ?_
  refine g_getF W (W.ow (i := 1) rfl) (i := 1) (v := .int (0 : Int32)) rfl rfl (own_w hw 56 rfl) d22_8 (q := 11) rfl fun T W => ?_
  refine g_ishl W d22_11 (q := 12) (z := (mn).toInt32) (own_shl0 _) rfl ?_
  refine g_istoreN W d22_12 (q := 13) (L' := #[.val (.ref x), .val (.int mn.toInt32), .val (.int (cap).toInt32), .val (.int (mn).toInt32), .unset, .unset]) rfl rfl ?_
  refine g_iloadN W d22_13 (q := 14) rfl rfl ?_
  refine g_iloadN W d22_14 (q := 15) rfl rfl ?_
  refine g_isub W d22_15 (q := 16) (z := (mn - cap).toInt32) (own_sub (by omega) (by omega)) rfl ?_
  refine g_istore W d22_16 (q := 18) (L' := #[.val (.ref x), .val (.int mn.toInt32), .val (.int (cap).toInt32), .val (.int (mn).toInt32), .val (.int (mn - cap).toInt32), .unset]) rfl rfl ?_
  refine g_iloadN W d22_18 (q := 19) rfl rfl ?_
  refine g_iload W d22_19 (q := 21) rfl rfl ?_
  refine g_iloadN W d22_21 (q := 22) rfl rfl ?_
  refine g_iconst W (v := (2 : Int32)) d22_22 (q := 23) rfl rfl ?_
  refine g_aloadN W d22_23 (q := 24) rfl rfl rfl ?_
  refine g_getF W (W.ow (i := 1) rfl) (i := 1) (v := .int (0 : Int32)) rfl rfl (own_w hw 56 rfl) d22_24 (q := 27) rfl fun T W => ?_
  refine g_ishl W d22_27 (q := 28) (z := (2 : Int32)) (by decide) rfl ?_
  refine g_iadd W d22_28 (q := 29) (z := (cap + 2).toInt32) (own_add (j := 2) (by omega)) rfl ?_
  refine g_static W (con_nlen l Z a0 E0 _ P cap (mn - cap) (cap + 2) (by omega) (by omega)) (argsL := [(.int (cap).toInt32), (.int (mn - cap).toInt32), (.int (cap + 2).toInt32)]) (rest := []) rfl rfl pd_10 rfl (own_w hw 112 rfl) (own_w hw 113 rfl) (own_w hw 114 rfl) (own_w hw 115 rfl) (by decide) d22_29 (q := 32) rfl rfl (Nat.le_of_ble_eq_true rfl) (Nat.le_of_ble_eq_true rfl) (Nat.le_of_ble_eq_true rfl) (Nat.le_of_ble_eq_true rfl) ?_
  rintro _ _ _ T ⟨rfl, rfl, rfl⟩ W
  refine g_istore W d22_32 (q := 34) (L' := #[.val (.ref x), .val (.int mn.toInt32), .val (.int (cap).toInt32), .val (.int (mn).toInt32), .val (.int (mn - cap).toInt32), .val (.int (cap + max (mn - cap) (cap + 2)).toInt32)]) rfl rfl ?_
  refine g_iload W d22_34 (q := 36) rfl rfl ?_
  refine g_ldcI W (v := (2147483647 : Int32)) (own_w hw 121 rfl) d22_36 (q := 38) rfl ?_
  refine g_icY W d22_38 (q := 51) (XT.ii_ne_t (own_neMax (by omega))) (by decide) (by decide) ?_
  refine g_iload W d22_51 (q := 53) rfl rfl ?_
  refine g_aloadN W d22_53 (q := 54) rfl rfl rfl ?_
  refine g_getF W (W.ow (i := 1) rfl) (i := 1) (v := .int (0 : Int32)) rfl rfl (own_w hw 56 rfl) d22_54 (q := 57) rfl fun T W => ?_
  refine g_ishr W d22_57 (q := 58) (z := (cap + max (mn - cap) (cap + 2)).toInt32) (own_shr0 _) rfl ?_
  exact g_retI W rfl (Or.inl rfl) rfl d22_58 (Nat.le_of_ble_eq_true rfl) (Nat.le_of_ble_eq_true rfl) ⟨rfl, rfl, rfl⟩
theorem d23_0 : decode jdk_68_method_9_code 0 = .ok (.aload_n 0, 1) := by decide +kernel
theorem d23_1 : decode jdk_68_method_9_code 1 = .ok (.getfield 15, 3) := by decide +kernel
theorem d23_4 : decode jdk_68_method_9_code 4 = .ok (.arraylength, 1) := by decide +kernel
theorem d23_5 : decode jdk_68_method_9_code 5 = .ok (.aload_n 0, 1) := by decide +kernel
theorem d23_6 : decode jdk_68_method_9_code 6 = .ok (.getfield 22, 3) := by decide +kernel
theorem d23_9 : decode jdk_68_method_9_code 9 = .ok (.ishr, 1) := by decide +kernel
theorem d23_10 : decode jdk_68_method_9_code 10 = .ok (.istore_n 2, 1) := by decide +kernel
theorem d23_11 : decode jdk_68_method_9_code 11 = .ok (.iload_n 1, 1) := by decide +kernel
theorem d23_12 : decode jdk_68_method_9_code 12 = .ok (.iload_n 2, 1) := by decide +kernel
theorem d23_13 : decode jdk_68_method_9_code 13 = .ok (.isub, 1) := by decide +kernel
theorem d23_14 : decode jdk_68_method_9_code 14 = .ok (.ifCond .le 24, 3) := by decide +kernel
theorem d23_17 : decode jdk_68_method_9_code 17 = .ok (.aload_n 0, 1) := by decide +kernel
theorem d23_18 : decode jdk_68_method_9_code 18 = .ok (.aload_n 0, 1) := by decide +kernel
theorem d23_19 : decode jdk_68_method_9_code 19 = .ok (.getfield 15, 3) := by decide +kernel
theorem d23_22 : decode jdk_68_method_9_code 22 = .ok (.aload_n 0, 1) := by decide +kernel
theorem d23_23 : decode jdk_68_method_9_code 23 = .ok (.iload_n 1, 1) := by decide +kernel
theorem d23_24 : decode jdk_68_method_9_code 24 = .ok (.invokevirtual 104, 3) := by decide +kernel
theorem d23_27 : decode jdk_68_method_9_code 27 = .ok (.aload_n 0, 1) := by decide +kernel
theorem d23_28 : decode jdk_68_method_9_code 28 = .ok (.getfield 22, 3) := by decide +kernel
theorem d23_31 : decode jdk_68_method_9_code 31 = .ok (.ishl, 1) := by decide +kernel
theorem d23_32 : decode jdk_68_method_9_code 32 = .ok (.invokestatic 108, 3) := by decide +kernel
theorem d23_35 : decode jdk_68_method_9_code 35 = .ok (.putfield 15, 3) := by decide +kernel
theorem d23_38 : decode jdk_68_method_9_code 38 = .ok (.return_, 1) := by decide +kernel
theorem ef_ens (m : MethodId) (x : Addr) (i : Int32) : entryFrame m #[(.ref x), (.int i)] 3 = mkF m 0 #[.val (.ref x), .val (.int i), .unset] [] := by first | (simp [entryFrame, mkF, argsToLocals, Value.category]; done) | rfl
theorem pd_15 : parseMethodDescriptor "([BI)[B" = some ⟨[(.array .byte), .int], (some (.array .byte))⟩ := by decide +kernel
set_option maxRecDepth 65536 in
set_option maxHeartbeats 40000000 in
theorem con_ens0 {kn : Prop} (l : Launch) (Z : State) (a0 : Array Value) (E0 : Env0 Z a0) (O P : List Ent) (x v : Addr) (cs : List Int32) (r : List Value) (cap mn N : Nat) (hc : cs.length + r.length = cap) (hm2 : mn ≤ 10000) (hG : grow cap mn ≤ N) (hN : N ≤ 60000) :
    Con kn l Z EL0 (⟨"java/lang/AbstractStringBuilder", "ensureCapacityInternal", "(I)V"⟩ : MethodName) jdk_68_method_9_code 3 none [] ({ frames := 3, cells := 1, slots := N, locals := 60 } : Room) #[.ref x, .int mn.toInt32] ((v, ArrC Z .byte (enc cs ++ r)) :: (x, ObjC Z "java/lang/StringBuilder" shSB [.ref v, .int (0 : Int32), .int (cs).length.toInt32, .int 0]) :: O) P (fun v0 O' P' => ∃ v' r', v0 = none ∧ O' = ((v', ArrC Z .byte (enc cs ++ r')) :: (x, ObjC Z "java/lang/StringBuilder" shSB [.ref v', .int (0 : Int32), .int (cs).length.toInt32, .int 0]) :: O) ∧ P = P' ∧ cs.length + r'.length = grow cap mn) := by
  obtain ⟨hw, hs0, hEL, hS, ⟨cs0, hC0, hcs0⟩, ⟨fv, hFv, hfv⟩, hAD, hHI, hLO, hmore⟩ := id E0
  refine con_intro (plainFor_of_name pn_8) hEL (fun m => ef_ens m _ _) ?_
  intro p e s m below meth c T W hnm
  have hcN : cap ≤ N := by { unfold grow at hG; split at hG <;> omega }
  refine g_aloadN W d23_0 (q := 1) rfl rfl rfl ?_
  refine g_getF W (W.ow (i := 1) rfl) (i := 0) (v := .ref v) rfl rfl (own_w hw 54 rfl) d23_1 (q := 4) rfl fun T W => ?_
  refine g_len W (W.ow (i := 0) rfl) (z := (cap).toInt32) (by rw [List.length_append, enc_len, hc]) d23_4 (q := 5) rfl ?_
  refine g_aloadN W d23_5 (q := 6) rfl rfl rfl ?_
  refine g_getF W (W.ow (i := 1) rfl) (i := 1) (v := .int (0 : Int32)) rfl rfl (own_w hw 56 rfl) d23_6 (q := 9) rfl fun T W => ?_
  refine g_ishr W d23_9 (q := 10) (z := cap.toInt32) (own_shr0 _) rfl ?_
  refine g_istoreN W d23_10 (q := 11) (L' := #[.val (.ref x), .val (.int mn.toInt32), .val (.int cap.toInt32)]) rfl rfl ?_
  refine g_iloadN W d23_11 (q := 12) rfl rfl ?_
  refine g_iloadN W d23_12 (q := 13) rfl rfl ?_
  refine g_isub W d23_13 (q := 14) (z := (mn.toInt32 - cap.toInt32)) rfl rfl ?_
  by_cases hz : cap < mn
  · have hg : grow cap mn = cap + max (mn - cap) (cap + 2) := if_neg (by omega)
    rw [hg] at hG ⊢
    refine g_ifN W d23_14 (q := 17) (XT.i0_le_f ((own_subpos (by omega) (by omega)).mpr hz)) rfl ?_
    refine g_aloadN W d23_17 (q := 18) rfl rfl rfl ?_
    refine g_aloadN W d23_18 (q := 19) rfl rfl rfl ?_
    refine g_getF W (W.ow (i := 1) rfl) (i := 0) (v := .ref v) rfl rfl (own_w hw 54 rfl) d23_19 (q := 22) rfl fun T W => ?_
    refine g_aloadN W d23_22 (q := 23) rfl rfl rfl ?_
    refine g_iloadN W d23_23 (q := 24) rfl rfl ?_
    refine g_privUp W (con_ncap0 l Z a0 E0 O P x v cs r cap mn hc hz (by omega)) (D := "java/lang/StringBuilder") (own_ex (W.ow (i := 1) rfl) fun _ h => h.1) (argsL := [(.int mn.toInt32)]) (rest := [(.ref v), (.ref x)]) rfl rfl pd_0 rfl (own_w hw 107 rfl) (own_w hw 108 rfl) (own_w hw 109 rfl) (own_w hw 110 rfl) (own_w hw 50 rfl) (own_w hw 111 rfl) (by decide) d23_24 (q := 27) rfl rfl (Nat.le_of_ble_eq_true rfl) (Nat.le_of_ble_eq_true rfl) (Nat.le_of_ble_eq_true rfl) (by dsimp only; omega) ?_
    rintro _ _ _ T ⟨rfl, rfl, rfl⟩ W
    refine g_aloadN W d23_27 (q := 28) rfl rfl rfl ?_
    refine g_getF W (W.ow (i := 1) rfl) (i := 1) (v := .int (0 : Int32)) rfl rfl (own_w hw 56 rfl) d23_28 (q := 31) rfl fun T W => ?_
    refine g_ishl W d23_31 (q := 32) (z := ((cap + max (mn - cap) (cap + 2))).toInt32) (own_shl0 _) rfl ?_
    refine g_static W (con_cpo l Z a0 E0 _ P v (enc cs ++ r) ((cap + max (mn - cap) (cap + 2))) N (by rw [List.length_append, enc_len]; omega) hG hN) (argsL := [(.ref v), (.int ((cap + max (mn - cap) (cap + 2))).toInt32)]) (rest := [(.ref x)]) rfl rfl pd_15 rfl (own_w hw 122 rfl) (own_w hw 123 rfl) (own_w hw 124 rfl) (own_w hw 125 rfl) (by decide) d23_32 (q := 35) rfl rfl (Nat.le_of_ble_eq_true rfl) (Nat.le_of_ble_eq_true rfl) (Nat.le_of_ble_eq_true rfl) (by dsimp only; omega) ?_
    rintro _ _ _ T ⟨u, rfl, rfl, rfl⟩ W
    rw [List.append_assoc] at W
    refine g_putF W (i := 2) (j := 0) rfl (shSB_ok hw) shSB_nd rfl rfl (own_w hw 54 rfl) (Or.inl (own_w hw 55 rfl)) (own_w hw 41 rfl) (ty := (.array .byte)) (by decide) rfl rfl d23_35 (q := 38) rfl (vs' := [.ref u, .int (0 : Int32), .int cs.length.toInt32, .int 0]) rfl (O' := (u, ArrC Z .byte (enc cs ++ (r ++ List.replicate ((cap + max (mn - cap) (cap + 2)) - (enc cs ++ r).length) (.int 0)))) :: (v, ArrC Z .byte (enc cs ++ r)) :: (x, ObjC Z "java/lang/StringBuilder" shSB [.ref u, .int (0 : Int32), .int cs.length.toInt32, .int 0]) :: O) rfl fun T W => ?_
    have W := W.drop 1
    exact g_retV W rfl d23_38 (Nat.le_of_ble_eq_true rfl) (by dsimp only; omega) ⟨u, (r ++ List.replicate ((cap + max (mn - cap) (cap + 2)) - (enc cs ++ r).length) (.int 0)), rfl, rfl, rfl, by simp only [List.length_append, List.length_replicate, enc_len]; omega⟩
  · refine g_ifY W d23_14 (q := 38) (XT.i0_le_t (fun q => hz ((own_subpos (by omega) (by omega)).mp q))) (by decide) (by decide) ?_
    exact g_retV W rfl d23_38 (Nat.le_of_ble_eq_true rfl) (by dsimp only; omega) ⟨v, r, rfl, rfl, rfl, by rw [show grow cap mn = cap from if_pos (by omega)]; exact hc⟩
set_option maxRecDepth 65536 in
set_option maxHeartbeats 40000000 in
theorem con_ncap1 {kn : Prop} (l : Launch) (Z : State) (a0 : Array Value) (E0 : Env0 Z a0) (O P : List Ent) (x v : Addr) (cs : List Int32) (r : List Value) (cap mn : Nat) (hc : 2 * cs.length + r.length = 2 * cap) (hm : cap < mn) (hm2 : mn ≤ 20000) :
    Con kn l Z EL0 (⟨"java/lang/AbstractStringBuilder", "newCapacity", "(I)I"⟩ : MethodName) jdk_68_method_10_code 6 (some .int) [] ({ frames := 2, cells := 0, slots := 0, locals := 29 } : Room) #[.ref x, .int mn.toInt32] ((v, ArrC Z .byte (enc16 cs ++ r)) :: (x, ObjC Z "java/lang/StringBuilder" shSB [.ref v, .int (1 : Int32), .int (cs).length.toInt32, .int 0]) :: O) P (fun v0 O' P' => v0 = some (.int (cap + max (mn - cap) (cap + 2)).toInt32) ∧ ((v, ArrC Z .byte (enc16 cs ++ r)) :: (x, ObjC Z "java/lang/StringBuilder" shSB [.ref v, .int (1 : Int32), .int (cs).length.toInt32, .int 0]) :: O) = O' ∧ P = P') := by
  obtain ⟨hw, hs0, hEL, hS, ⟨cs0, hC0, hcs0⟩, ⟨fv, hFv, hfv⟩, hAD, hHI, hLO, hmore⟩ := id E0
  refine con_intro (plainFor_of_name pn_8) hEL (fun m => ef_ncap m _ _) ?_
  intro p e s m below meth c T W hnm
  refine g_aloadN W d22_0 (q := 1) rfl rfl rfl ?_
  refine g_getF W (W.ow (i := 1) rfl) (i := 0) (v := .ref v) rfl rfl (own_w hw 54 rfl) d22_1 (q := 4) rfl fun T W => ?_
  refine g_len W (W.ow (i := 0) rfl) (z := (2 * cap).toInt32) (by rw [List.length_append, enc16_len, hc]) d22_4 (q := 5) rfl ?_
  refine g_istoreN W d22_5 (q := 6) (L' := #[.val (.ref x), .val (.int mn.toInt32), .val (.int (2 * cap).toInt32), .unset, .unset, .unset]) rfl rfl ?_
  refine g_iloadN W d22_6 (q := 7) rfl rfl ?_
  refine g_aloadN W d22_7 (q := 8) rfl rfl rfl ?_
  refine g_getF W (W.ow (i := 1) rfl) (i := 1) (v := .int (1 : Int32)) rfl rfl (own_w hw 56 rfl) d22_8 (q := 11) rfl fun T W => ?_
  refine g_ishl W d22_11 (q := 12) (z := (2 * mn).toInt32) (own_shl1 (by omega)) rfl ?_
  refine g_istoreN W d22_12 (q := 13) (L' := #[.val (.ref x), .val (.int mn.toInt32), .val (.int (2 * cap).toInt32), .val (.int (2 * mn).toInt32), .unset, .unset]) rfl rfl ?_
  refine g_iloadN W d22_13 (q := 14) rfl rfl ?_
  refine g_iloadN W d22_14 (q := 15) rfl rfl ?_
  refine g_isub W d22_15 (q := 16) (z := (2 * mn - 2 * cap).toInt32) (own_sub (by omega) (by omega)) rfl ?_
  refine g_istore W d22_16 (q := 18) (L' := #[.val (.ref x), .val (.int mn.toInt32), .val (.int (2 * cap).toInt32), .val (.int (2 * mn).toInt32), .val (.int (2 * mn - 2 * cap).toInt32), .unset]) rfl rfl ?_
  refine g_iloadN W d22_18 (q := 19) rfl rfl ?_
  refine g_iload W d22_19 (q := 21) rfl rfl ?_
  refine g_iloadN W d22_21 (q := 22) rfl rfl ?_
  refine g_iconst W (v := (2 : Int32)) d22_22 (q := 23) rfl rfl ?_
  refine g_aloadN W d22_23 (q := 24) rfl rfl rfl ?_
  refine g_getF W (W.ow (i := 1) rfl) (i := 1) (v := .int (1 : Int32)) rfl rfl (own_w hw 56 rfl) d22_24 (q := 27) rfl fun T W => ?_
  refine g_ishl W d22_27 (q := 28) (z := (4 : Int32)) (by decide) rfl ?_
  refine g_iadd W d22_28 (q := 29) (z := (2 * cap + 4).toInt32) (own_add (j := 4) (by omega)) rfl ?_
  refine g_static W (con_nlen l Z a0 E0 _ P (2 * cap) (2 * mn - 2 * cap) (2 * cap + 4) (by omega) (by omega)) (argsL := [(.int (2 * cap).toInt32), (.int (2 * mn - 2 * cap).toInt32), (.int (2 * cap + 4).toInt32)]) (rest := []) rfl rfl pd_10 rfl (own_w hw 112 rfl) (own_w hw 113 rfl) (own_w hw 114 rfl) (own_w hw 115 rfl) (by decide) d22_29 (q := 32) rfl rfl (Nat.le_of_ble_eq_true rfl) (Nat.le_of_ble_eq_true rfl) (Nat.le_of_ble_eq_true rfl) (Nat.le_of_ble_eq_true rfl) ?_
  rintro _ _ _ T ⟨rfl, rfl, rfl⟩ W
  refine g_istore W d22_32 (q := 34) (L' := #[.val (.ref x), .val (.int mn.toInt32), .val (.int (2 * cap).toInt32), .val (.int (2 * mn).toInt32), .val (.int (2 * mn - 2 * cap).toInt32), .val (.int ((2 * cap) + max (2 * mn - 2 * cap) (2 * cap + 4)).toInt32)]) rfl rfl ?_
  refine g_iload W d22_34 (q := 36) rfl rfl ?_
  refine g_ldcI W (v := (2147483647 : Int32)) (own_w hw 121 rfl) d22_36 (q := 38) rfl ?_
  refine g_icY W d22_38 (q := 51) (XT.ii_ne_t (own_neMax (by omega))) (by decide) (by decide) ?_
  refine g_iload W d22_51 (q := 53) rfl rfl ?_
  refine g_aloadN W d22_53 (q := 54) rfl rfl rfl ?_
  refine g_getF W (W.ow (i := 1) rfl) (i := 1) (v := .int (1 : Int32)) rfl rfl (own_w hw 56 rfl) d22_54 (q := 57) rfl fun T W => ?_
  refine g_ishr W d22_57 (q := 58) (z := (cap + max (mn - cap) (cap + 2)).toInt32) (by rw [show ((2 * cap) + max (2 * mn - 2 * cap) (2 * cap + 4)) = 2 * (cap + max (mn - cap) (cap + 2)) by omega]; exact own_shr1 (by omega)) rfl ?_
  exact g_retI W rfl (Or.inl rfl) rfl d22_58 (Nat.le_of_ble_eq_true rfl) (Nat.le_of_ble_eq_true rfl) ⟨rfl, rfl, rfl⟩
set_option maxRecDepth 65536 in
set_option maxHeartbeats 40000000 in
theorem con_ens1 {kn : Prop} (l : Launch) (Z : State) (a0 : Array Value) (E0 : Env0 Z a0) (O P : List Ent) (x v : Addr) (cs : List Int32) (r : List Value) (cap mn N : Nat) (hc : 2 * cs.length + r.length = 2 * cap) (hm2 : mn ≤ 10000) (hG : 2 * grow cap mn ≤ N) (hN : N ≤ 60000) :
    Con kn l Z EL0 (⟨"java/lang/AbstractStringBuilder", "ensureCapacityInternal", "(I)V"⟩ : MethodName) jdk_68_method_9_code 3 none [] ({ frames := 3, cells := 1, slots := N, locals := 60 } : Room) #[.ref x, .int mn.toInt32] ((v, ArrC Z .byte (enc16 cs ++ r)) :: (x, ObjC Z "java/lang/StringBuilder" shSB [.ref v, .int (1 : Int32), .int (cs).length.toInt32, .int 0]) :: O) P (fun v0 O' P' => ∃ v' r', v0 = none ∧ O' = ((v', ArrC Z .byte (enc16 cs ++ r')) :: (x, ObjC Z "java/lang/StringBuilder" shSB [.ref v', .int (1 : Int32), .int (cs).length.toInt32, .int 0]) :: O) ∧ P = P' ∧ 2 * cs.length + r'.length = 2 * grow cap mn) := by
  obtain ⟨hw, hs0, hEL, hS, ⟨cs0, hC0, hcs0⟩, ⟨fv, hFv, hfv⟩, hAD, hHI, hLO, hmore⟩ := id E0
  refine con_intro (plainFor_of_name pn_8) hEL (fun m => ef_ens m _ _) ?_
  intro p e s m below meth c T W hnm
  have hcN : 2 * cap ≤ N := by { unfold grow at hG; split at hG <;> omega }
  refine g_aloadN W d23_0 (q := 1) rfl rfl rfl ?_
  refine g_getF W (W.ow (i := 1) rfl) (i := 0) (v := .ref v) rfl rfl (own_w hw 54 rfl) d23_1 (q := 4) rfl fun T W => ?_
  refine g_len W (W.ow (i := 0) rfl) (z := (2 * cap).toInt32) (by rw [List.length_append, enc16_len, hc]) d23_4 (q := 5) rfl ?_
  refine g_aloadN W d23_5 (q := 6) rfl rfl rfl ?_
  refine g_getF W (W.ow (i := 1) rfl) (i := 1) (v := .int (1 : Int32)) rfl rfl (own_w hw 56 rfl) d23_6 (q := 9) rfl fun T W => ?_
  refine g_ishr W d23_9 (q := 10) (z := cap.toInt32) (own_shr1 (by omega)) rfl ?_
  refine g_istoreN W d23_10 (q := 11) (L' := #[.val (.ref x), .val (.int mn.toInt32), .val (.int cap.toInt32)]) rfl rfl ?_
  refine g_iloadN W d23_11 (q := 12) rfl rfl ?_
  refine g_iloadN W d23_12 (q := 13) rfl rfl ?_
  refine g_isub W d23_13 (q := 14) (z := (mn.toInt32 - cap.toInt32)) rfl rfl ?_
  by_cases hz : cap < mn
  · have hg : grow cap mn = cap + max (mn - cap) (cap + 2) := if_neg (by omega)
    rw [hg] at hG ⊢
    refine g_ifN W d23_14 (q := 17) (XT.i0_le_f ((own_subpos (by omega) (by omega)).mpr hz)) rfl ?_
    refine g_aloadN W d23_17 (q := 18) rfl rfl rfl ?_
    refine g_aloadN W d23_18 (q := 19) rfl rfl rfl ?_
    refine g_getF W (W.ow (i := 1) rfl) (i := 0) (v := .ref v) rfl rfl (own_w hw 54 rfl) d23_19 (q := 22) rfl fun T W => ?_
    refine g_aloadN W d23_22 (q := 23) rfl rfl rfl ?_
    refine g_iloadN W d23_23 (q := 24) rfl rfl ?_
    refine g_privUp W (con_ncap1 l Z a0 E0 O P x v cs r cap mn hc hz (by omega)) (D := "java/lang/StringBuilder") (own_ex (W.ow (i := 1) rfl) fun _ h => h.1) (argsL := [(.int mn.toInt32)]) (rest := [(.ref v), (.ref x)]) rfl rfl pd_0 rfl (own_w hw 107 rfl) (own_w hw 108 rfl) (own_w hw 109 rfl) (own_w hw 110 rfl) (own_w hw 50 rfl) (own_w hw 111 rfl) (by decide) d23_24 (q := 27) rfl rfl (Nat.le_of_ble_eq_true rfl) (Nat.le_of_ble_eq_true rfl) (Nat.le_of_ble_eq_true rfl) (by dsimp only; omega) ?_
    rintro _ _ _ T ⟨rfl, rfl, rfl⟩ W
    refine g_aloadN W d23_27 (q := 28) rfl rfl rfl ?_
    refine g_getF W (W.ow (i := 1) rfl) (i := 1) (v := .int (1 : Int32)) rfl rfl (own_w hw 56 rfl) d23_28 (q := 31) rfl fun T W => ?_
    refine g_ishl W d23_31 (q := 32) (z := (2 * (cap + max (mn - cap) (cap + 2))).toInt32) (own_shl1 (by omega)) rfl ?_
    refine g_static W (con_cpo l Z a0 E0 _ P v (enc16 cs ++ r) (2 * (cap + max (mn - cap) (cap + 2))) N (by rw [List.length_append, enc16_len]; omega) hG hN) (argsL := [(.ref v), (.int (2 * (cap + max (mn - cap) (cap + 2))).toInt32)]) (rest := [(.ref x)]) rfl rfl pd_15 rfl (own_w hw 122 rfl) (own_w hw 123 rfl) (own_w hw 124 rfl) (own_w hw 125 rfl) (by decide) d23_32 (q := 35) rfl rfl (Nat.le_of_ble_eq_true rfl) (Nat.le_of_ble_eq_true rfl) (Nat.le_of_ble_eq_true rfl) (by dsimp only; omega) ?_
    rintro _ _ _ T ⟨u, rfl, rfl, rfl⟩ W
    rw [List.append_assoc] at W
    refine g_putF W (i := 2) (j := 0) rfl (shSB_ok hw) shSB_nd rfl rfl (own_w hw 54 rfl) (Or.inl (own_w hw 55 rfl)) (own_w hw 41 rfl) (ty := (.array .byte)) (by decide) rfl rfl d23_35 (q := 38) rfl (vs' := [.ref u, .int (1 : Int32), .int cs.length.toInt32, .int 0]) rfl (O' := (u, ArrC Z .byte (enc16 cs ++ (r ++ List.replicate (2 * (cap + max (mn - cap) (cap + 2)) - (enc16 cs ++ r).length) (.int 0)))) :: (v, ArrC Z .byte (enc16 cs ++ r)) :: (x, ObjC Z "java/lang/StringBuilder" shSB [.ref u, .int (1 : Int32), .int cs.length.toInt32, .int 0]) :: O) rfl fun T W => ?_
    have W := W.drop 1
    exact g_retV W rfl d23_38 (Nat.le_of_ble_eq_true rfl) (by dsimp only; omega) ⟨u, (r ++ List.replicate (2 * (cap + max (mn - cap) (cap + 2)) - (enc16 cs ++ r).length) (.int 0)), rfl, rfl, rfl, by simp only [List.length_append, List.length_replicate, enc16_len]; omega⟩
  · refine g_ifY W d23_14 (q := 38) (XT.i0_le_t (fun q => hz ((own_subpos (by omega) (by omega)).mp q))) (by decide) (by decide) ?_
    exact g_retV W rfl d23_38 (Nat.le_of_ble_eq_true rfl) (by dsimp only; omega) ⟨v, r, rfl, rfl, rfl, by rw [show grow cap mn = cap from if_pos (by omega)]; exact hc⟩
theorem d24_0 : decode jdk_68_method_68_code 0 = .ok (.getstatic 18, 3) := by decide +kernel
theorem d24_3 : decode jdk_68_method_68_code 3 = .ok (.ifCond .eq 14, 3) := by decide +kernel
theorem d24_6 : decode jdk_68_method_68_code 6 = .ok (.aload_n 0, 1) := by decide +kernel
theorem d24_7 : decode jdk_68_method_68_code 7 = .ok (.getfield 22, 3) := by decide +kernel
theorem d24_10 : decode jdk_68_method_68_code 10 = .ok (.ifCond .ne 7, 3) := by decide +kernel
theorem d24_13 : decode jdk_68_method_68_code 13 = .ok (.iconst 1, 1) := by decide +kernel
theorem d24_14 : decode jdk_68_method_68_code 14 = .ok (.goto 4, 3) := by decide +kernel
theorem d24_17 : decode jdk_68_method_68_code 17 = .ok (.iconst 0, 1) := by decide +kernel
theorem d24_18 : decode jdk_68_method_68_code 18 = .ok (.ireturn, 1) := by decide +kernel
theorem ef_ail (m : MethodId) (x : Addr) : entryFrame m #[(.ref x)] 1 = mkF m 0 #[.val (.ref x)] [] := by first | (simp [entryFrame, mkF, argsToLocals, Value.category]; done) | rfl
set_option maxRecDepth 65536 in
set_option maxHeartbeats 40000000 in
theorem con_ail0 {kn : Prop} (l : Launch) (Z : State) (a0 : Array Value) (E0 : Env0 Z a0) (O P : List Ent) (i : Nat) (x v : Addr) (z : Int32) (hi : O[i]? = some (x, ObjC Z "java/lang/StringBuilder" shSB [.ref v, .int (0 : Int32), .int z, .int 0])) :
    Con kn l Z EL0 (⟨"java/lang/AbstractStringBuilder", "isLatin1", "()Z"⟩ : MethodName) jdk_68_method_68_code 1 (some .boolean) [] ({ frames := 0, cells := 0, slots := 0, locals := 0 } : Room) #[.ref x] O P (fun v0 O' P' => v0 = some (.int (1 : Int32)) ∧ O = O' ∧ P = P') := by
  obtain ⟨hw, hs0, hEL, hS, ⟨cs0, hC0, hcs0⟩, ⟨fv, hFv, hfv⟩, hAD, hHI, hLO, hmore⟩ := id E0
  refine con_intro (plainFor_of_name pn_8) hEL (fun m => ef_ail m _) ?_
  intro p e s m below meth c T W hnm
  refine g_getS W hC0 (own_w hw 53 rfl) d24_0 (q := 3) rfl fun T W => ?_
  refine g_ifN W d24_3 (q := 6) (XT.i0_eq_f hcs0) rfl ?_
  refine g_aloadN W d24_6 (q := 7) rfl rfl rfl ?_
  refine g_getF W (W.ow hi) (i := 1) (v := .int (0 : Int32)) rfl rfl (own_w hw 56 rfl) d24_7 (q := 10) rfl fun T W => ?_
  refine g_ifN W d24_10 (q := 13) (XT.i0_ne_f (by decide)) rfl ?_
  refine g_iconst W (v := (1 : Int32)) d24_13 (q := 14) rfl rfl ?_
  refine g_goto W d24_14 (q := 18) (by decide) (by decide) ?_
  exact g_retI W rfl (Or.inr (Or.inl rfl)) rfl d24_18 (Nat.le_of_ble_eq_true rfl) (Nat.le_of_ble_eq_true rfl) ⟨rfl, rfl, rfl⟩
set_option maxRecDepth 65536 in
set_option maxHeartbeats 40000000 in
theorem con_ail1 {kn : Prop} (l : Launch) (Z : State) (a0 : Array Value) (E0 : Env0 Z a0) (O P : List Ent) (i : Nat) (x v : Addr) (z : Int32) (hi : O[i]? = some (x, ObjC Z "java/lang/StringBuilder" shSB [.ref v, .int (1 : Int32), .int z, .int 0])) :
    Con kn l Z EL0 (⟨"java/lang/AbstractStringBuilder", "isLatin1", "()Z"⟩ : MethodName) jdk_68_method_68_code 1 (some .boolean) [] ({ frames := 0, cells := 0, slots := 0, locals := 0 } : Room) #[.ref x] O P (fun v0 O' P' => v0 = some (.int (0 : Int32)) ∧ O = O' ∧ P = P') := by
  obtain ⟨hw, hs0, hEL, hS, ⟨cs0, hC0, hcs0⟩, ⟨fv, hFv, hfv⟩, hAD, hHI, hLO, hmore⟩ := id E0
  refine con_intro (plainFor_of_name pn_8) hEL (fun m => ef_ail m _) ?_
  intro p e s m below meth c T W hnm
  refine g_getS W hC0 (own_w hw 53 rfl) d24_0 (q := 3) rfl fun T W => ?_
  refine g_ifN W d24_3 (q := 6) (XT.i0_eq_f hcs0) rfl ?_
  refine g_aloadN W d24_6 (q := 7) rfl rfl rfl ?_
  refine g_getF W (W.ow hi) (i := 1) (v := .int (1 : Int32)) rfl rfl (own_w hw 56 rfl) d24_7 (q := 10) rfl fun T W => ?_
  refine g_ifY W d24_10 (q := 17) (XT.i0_ne_t (by decide)) (by decide) (by decide) ?_
  refine g_iconst W (v := (0 : Int32)) d24_17 (q := 18) rfl rfl ?_
  exact g_retI W rfl (Or.inr (Or.inl rfl)) rfl d24_18 (Nat.le_of_ble_eq_true rfl) (Nat.le_of_ble_eq_true rfl) ⟨rfl, rfl, rfl⟩
theorem d25_0 : decode jdk_68_method_11_code 0 = .ok (.aload_n 0, 1) := by decide +kernel
theorem d25_1 : decode jdk_68_method_11_code 1 = .ok (.invokevirtual 83, 3) := by decide +kernel
theorem d25_4 : decode jdk_68_method_11_code 4 = .ok (.ifCond .ne 4, 3) := by decide +kernel
theorem d25_7 : decode jdk_68_method_11_code 7 = .ok (.return_, 1) := by decide +kernel
theorem d25_8 : decode jdk_68_method_11_code 8 = .ok (.aload_n 0, 1) := by decide +kernel
theorem d25_9 : decode jdk_68_method_11_code 9 = .ok (.getfield 15, 3) := by decide +kernel
theorem d25_12 : decode jdk_68_method_11_code 12 = .ok (.arraylength, 1) := by decide +kernel
theorem d25_13 : decode jdk_68_method_11_code 13 = .ok (.invokestatic 26, 3) := by decide +kernel
theorem d25_16 : decode jdk_68_method_11_code 16 = .ok (.astore_n 1, 1) := by decide +kernel
theorem d25_17 : decode jdk_68_method_11_code 17 = .ok (.aload_n 0, 1) := by decide +kernel
theorem d25_18 : decode jdk_68_method_11_code 18 = .ok (.getfield 15, 3) := by decide +kernel
theorem d25_21 : decode jdk_68_method_11_code 21 = .ok (.iconst 0, 1) := by decide +kernel
theorem d25_22 : decode jdk_68_method_11_code 22 = .ok (.aload_n 1, 1) := by decide +kernel
theorem d25_23 : decode jdk_68_method_11_code 23 = .ok (.iconst 0, 1) := by decide +kernel
theorem d25_24 : decode jdk_68_method_11_code 24 = .ok (.aload_n 0, 1) := by decide +kernel
theorem d25_25 : decode jdk_68_method_11_code 25 = .ok (.getfield 79, 3) := by decide +kernel
theorem d25_28 : decode jdk_68_method_11_code 28 = .ok (.invokestatic 125, 3) := by decide +kernel
theorem d25_31 : decode jdk_68_method_11_code 31 = .ok (.aload_n 0, 1) := by decide +kernel
theorem d25_32 : decode jdk_68_method_11_code 32 = .ok (.aload_n 1, 1) := by decide +kernel
theorem d25_33 : decode jdk_68_method_11_code 33 = .ok (.putfield 15, 3) := by decide +kernel
theorem d25_36 : decode jdk_68_method_11_code 36 = .ok (.aload_n 0, 1) := by decide +kernel
theorem d25_37 : decode jdk_68_method_11_code 37 = .ok (.iconst 1, 1) := by decide +kernel
theorem d25_38 : decode jdk_68_method_11_code 38 = .ok (.putfield 22, 3) := by decide +kernel
theorem d25_41 : decode jdk_68_method_11_code 41 = .ok (.return_, 1) := by decide +kernel
theorem ef_ifl (m : MethodId) (x : Addr) : entryFrame m #[(.ref x)] 2 = mkF m 0 #[.val (.ref x), .unset] [] := by first | (simp [entryFrame, mkF, argsToLocals, Value.category]; done) | rfl
theorem pd_16 : parseMethodDescriptor "()Z" = some ⟨[], (some .boolean)⟩ := by decide +kernel
set_option maxRecDepth 65536 in
set_option maxHeartbeats 40000000 in
theorem con_ifl0 {kn : Prop} (l : Launch) (Z : State) (a0 : Array Value) (E0 : Env0 Z a0) (O P : List Ent) (x v : Addr) (cs : List Int32) (r : List Value) (cap N : Nat) (hc : cs.length + r.length = cap) (hlatc : ∀ d ∈ cs, 0 ≤ d.toInt ∧ d.toInt ≤ 255) (hcap : cap ≤ N) (hN : N ≤ 20000) :
    Con kn l Z EL0 (⟨"java/lang/AbstractStringBuilder", "inflate", "()V"⟩ : MethodName) jdk_68_method_11_code 2 none [] ({ frames := 5, cells := 1, slots := 2 * N, locals := 80 } : Room) #[.ref x] ((v, ArrC Z .byte (enc cs ++ r)) :: (x, ObjC Z "java/lang/StringBuilder" shSB [.ref v, .int (0 : Int32), .int (cs).length.toInt32, .int 0]) :: O) P (fun v0 O' P' => ∃ v' r', v0 = none ∧ O' = ((v', ArrC Z .byte (enc16 cs ++ r')) :: (x, ObjC Z "java/lang/StringBuilder" shSB [.ref v', .int (1 : Int32), .int (cs).length.toInt32, .int 0]) :: O) ∧ P = P' ∧ 2 * cs.length + r'.length = 2 * cap) := by
  obtain ⟨hw, hs0, hEL, hS, ⟨cs0, hC0, hcs0⟩, ⟨fv, hFv, hfv⟩, hAD, hHI, hLO, hmore⟩ := id E0
  refine con_intro (plainFor_of_name pn_8) hEL (fun m => ef_ifl m _) ?_
  intro p e s m below meth c T W hnm
  refine g_aloadN W d25_0 (q := 1) rfl rfl rfl ?_
  refine g_virtual W (con_ail0 l Z a0 E0 _ P 1 x v _ rfl) (own_ex (W.ow (i := 1) rfl) fun _ h => h.1) (argsL := []) (rest := []) rfl rfl pd_16 rfl (own_w hw 289 rfl) (own_w hw 157 rfl) (own_w hw 159 rfl) (own_w hw 158 rfl) (own_w hw 50 rfl) (own_w hw 160 rfl) (by decide) d25_1 (q := 4) rfl rfl (Nat.le_of_ble_eq_true rfl) (Nat.le_of_ble_eq_true rfl) (Nat.le_of_ble_eq_true rfl) (by dsimp only; omega) ?_
  rintro _ _ _ T ⟨rfl, rfl, rfl⟩ W
  refine g_ifY W d25_4 (q := 8) (XT.i0_ne_t (by decide)) (by decide) (by decide) ?_
  refine g_aloadN W d25_8 (q := 9) rfl rfl rfl ?_
  refine g_getF W (W.ow (i := 1) rfl) (i := 0) (v := .ref v) rfl rfl (own_w hw 54 rfl) d25_9 (q := 12) rfl fun T W => ?_
  refine g_len W (W.ow (i := 0) rfl) (z := cap.toInt32) (by rw [List.length_append, enc_len, hc]) d25_12 (q := 13) rfl ?_
  refine g_static W (con_nbf l Z a0 E0 _ P cap N hcap (by omega)) (argsL := [(.int cap.toInt32)]) (rest := []) rfl rfl pd_2 rfl (own_w hw 290 rfl) (own_w hw 269 rfl) (own_w hw 18 rfl) (own_w hw 270 rfl) (by decide) d25_13 (q := 16) rfl rfl (Nat.le_of_ble_eq_true rfl) (Nat.le_of_ble_eq_true rfl) (Nat.le_of_ble_eq_true rfl) (by dsimp only; omega) ?_
  rintro _ _ _ T ⟨u, rfl, rfl, rfl⟩ W
  refine g_astoreN W d25_16 (q := 17) (L' := #[.val (.ref x), .val (.ref u)]) rfl rfl rfl ?_
  refine g_aloadN W d25_17 (q := 18) rfl rfl rfl ?_
  refine g_getF W (W.ow (i := 2) rfl) (i := 0) (v := .ref v) rfl rfl (own_w hw 54 rfl) d25_18 (q := 21) rfl fun T W => ?_
  refine g_iconst W (v := (0 : Int32)) d25_21 (q := 22) rfl rfl ?_
  refine g_aloadN W d25_22 (q := 23) rfl rfl rfl ?_
  refine g_iconst W (v := (0 : Int32)) d25_23 (q := 24) rfl rfl ?_
  refine g_aloadN W d25_24 (q := 25) rfl rfl rfl ?_
  refine g_getF W (W.ow (i := 2) rfl) (i := 2) (v := .int cs.length.toInt32) rfl rfl (own_w hw 79 rfl) d25_25 (q := 28) rfl fun T W => ?_
  refine g_static W (con_linf l Z a0 E0 _ P v u [] cs r (List.replicate (2 * cap) (.int 0)) (Or.inl ⟨0, rfl⟩) hlatc (by rw [List.length_replicate]; omega) (by rw [List.length_nil]; omega) (by rw [List.length_replicate]; omega) cap (by rw [List.length_nil, List.length_replicate]; omega) (by omega)) (argsL := [(.ref v), (.int (0 : Int32)), (.ref u), (.int (0 : Int32)), (.int cs.length.toInt32)]) (rest := []) rfl rfl pd_12 rfl (own_w hw 291 rfl) (own_w hw 292 rfl) (own_w hw 263 rfl) (own_w hw 293 rfl) (by decide) d25_28 (q := 31) rfl rfl (Nat.le_of_ble_eq_true rfl) (Nat.le_of_ble_eq_true rfl) (Nat.le_of_ble_eq_true rfl) (by dsimp only; omega) ?_
  rintro _ _ _ T ⟨rfl, rfl, rfl⟩ W
  refine g_aloadN W d25_31 (q := 32) rfl rfl rfl ?_
  refine g_aloadN W d25_32 (q := 33) rfl rfl rfl ?_
  refine g_putF W (i := 2) (j := 0) rfl (shSB_ok hw) shSB_nd rfl rfl (own_w hw 54 rfl) (Or.inl (own_w hw 55 rfl)) (own_w hw 41 rfl) (ty := (.array .byte)) (by decide) rfl rfl d25_33 (q := 36) rfl (vs' := [.ref u, .int (0 : Int32), .int cs.length.toInt32, .int 0]) rfl (O' := (u, ArrC Z .byte (enc16 ([] ++ cs) ++ (List.drop (2 * cs.length) (List.replicate (2 * cap) (.int 0))))) :: (v, ArrC Z .byte (enc cs ++ r)) :: (x, ObjC Z "java/lang/StringBuilder" shSB [.ref u, .int (0 : Int32), .int cs.length.toInt32, .int 0]) :: O) rfl fun T W => ?_
  refine g_aloadN W d25_36 (q := 37) rfl rfl rfl ?_
  refine g_iconst W (v := (1 : Int32)) d25_37 (q := 38) rfl rfl ?_
  refine g_putF W (i := 2) (j := 1) rfl (shSB_ok hw) shSB_nd rfl rfl (own_w hw 56 rfl) (Or.inl (own_w hw 57 rfl)) (own_w hw 41 rfl) (ty := .byte) (by decide) rfl rfl d25_38 (q := 41) rfl (vs' := [.ref u, .int (1 : Int32), .int cs.length.toInt32, .int 0]) rfl (O' := (u, ArrC Z .byte (enc16 ([] ++ cs) ++ (List.drop (2 * cs.length) (List.replicate (2 * cap) (.int 0))))) :: (v, ArrC Z .byte (enc cs ++ r)) :: (x, ObjC Z "java/lang/StringBuilder" shSB [.ref u, .int (1 : Int32), .int cs.length.toInt32, .int 0]) :: O) rfl fun T W => ?_
  have W := W.drop 1
  exact g_retV W rfl d25_41 (Nat.le_of_ble_eq_true rfl) (by dsimp only; omega) ⟨u, (List.drop (2 * cs.length) (List.replicate (2 * cap) (.int 0))), rfl, rfl, rfl, by rw [List.length_drop, List.length_replicate]; omega⟩
set_option maxRecDepth 65536 in
set_option maxHeartbeats 40000000 in
theorem con_ifl1 {kn : Prop} (l : Launch) (Z : State) (a0 : Array Value) (E0 : Env0 Z a0) (O P : List Ent) (x v : Addr) (cs : List Int32) (r : List Value) :
    Con kn l Z EL0 (⟨"java/lang/AbstractStringBuilder", "inflate", "()V"⟩ : MethodName) jdk_68_method_11_code 2 none [] ({ frames := 1, cells := 0, slots := 0, locals := 12 } : Room) #[.ref x] ((v, ArrC Z .byte (enc16 cs ++ r)) :: (x, ObjC Z "java/lang/StringBuilder" shSB [.ref v, .int (1 : Int32), .int (cs).length.toInt32, .int 0]) :: O) P (fun v0 O' P' => v0 = none ∧ ((v, ArrC Z .byte (enc16 cs ++ r)) :: (x, ObjC Z "java/lang/StringBuilder" shSB [.ref v, .int (1 : Int32), .int (cs).length.toInt32, .int 0]) :: O) = O' ∧ P = P') := by
  obtain ⟨hw, hs0, hEL, hS, ⟨cs0, hC0, hcs0⟩, ⟨fv, hFv, hfv⟩, hAD, hHI, hLO, hmore⟩ := id E0
  refine con_intro (plainFor_of_name pn_8) hEL (fun m => ef_ifl m _) ?_
  intro p e s m below meth c T W hnm
  refine g_aloadN W d25_0 (q := 1) rfl rfl rfl ?_
  refine g_virtual W (con_ail1 l Z a0 E0 _ P 1 x v _ rfl) (own_ex (W.ow (i := 1) rfl) fun _ h => h.1) (argsL := []) (rest := []) rfl rfl pd_16 rfl (own_w hw 289 rfl) (own_w hw 157 rfl) (own_w hw 159 rfl) (own_w hw 158 rfl) (own_w hw 50 rfl) (own_w hw 160 rfl) (by decide) d25_1 (q := 4) rfl rfl (Nat.le_of_ble_eq_true rfl) (Nat.le_of_ble_eq_true rfl) (Nat.le_of_ble_eq_true rfl) (Nat.le_of_ble_eq_true rfl) ?_
  rintro _ _ _ T ⟨rfl, rfl, rfl⟩ W
  refine g_ifN W d25_4 (q := 7) (XT.i0_ne_f (by decide)) rfl ?_
  exact g_retV W rfl d25_7 (Nat.le_of_ble_eq_true rfl) (Nat.le_of_ble_eq_true rfl) ⟨rfl, rfl, rfl⟩
theorem d26_0 : decode jdk_68_method_71_code 0 = .ok (.getstatic 18, 3) := by decide +kernel
theorem d26_3 : decode jdk_68_method_71_code 3 = .ok (.ifCond .eq 18, 3) := by decide +kernel
theorem d26_6 : decode jdk_68_method_71_code 6 = .ok (.aload_n 0, 1) := by decide +kernel
theorem d26_7 : decode jdk_68_method_71_code 7 = .ok (.getfield 22, 3) := by decide +kernel
theorem d26_10 : decode jdk_68_method_71_code 10 = .ok (.aload_n 1, 1) := by decide +kernel
theorem d26_11 : decode jdk_68_method_71_code 11 = .ok (.invokevirtual 40, 3) := by decide +kernel
theorem d26_14 : decode jdk_68_method_71_code 14 = .ok (.if_icmp .eq 7, 3) := by decide +kernel
theorem d26_17 : decode jdk_68_method_71_code 17 = .ok (.aload_n 0, 1) := by decide +kernel
theorem d26_18 : decode jdk_68_method_71_code 18 = .ok (.invokevirtual 195, 3) := by decide +kernel
theorem d26_21 : decode jdk_68_method_71_code 21 = .ok (.return_, 1) := by decide +kernel
theorem ef_inf (m : MethodId) (x : Addr) (y : Addr) : entryFrame m #[(.ref x), (.ref y)] 2 = mkF m 0 #[.val (.ref x), .val (.ref y)] [] := by first | (simp [entryFrame, mkF, argsToLocals, Value.category]; done) | rfl
set_option maxRecDepth 65536 in
set_option maxHeartbeats 40000000 in
theorem con_inf00 {kn : Prop} (l : Launch) (Z : State) (a0 : Array Value) (E0 : Env0 Z a0) (O P : List Ent) (x v : Addr) (cs : List Int32) (r : List Value) (y b1 : Addr) (hy1 : (y, ObjC Z "java/lang/String" shStr [.ref b1, .int (0 : Int32)]) ∈ P)  :
    Con kn l Z EL0 (⟨"java/lang/AbstractStringBuilder", "inflateIfNeededFor", "(Ljava/lang/String;)V"⟩ : MethodName) jdk_68_method_71_code 2 none [] ({ frames := 2, cells := 0, slots := 0, locals := 30 } : Room) #[.ref x, .ref y] ((v, ArrC Z .byte (enc cs ++ r)) :: (x, ObjC Z "java/lang/StringBuilder" shSB [.ref v, .int (0 : Int32), .int (cs).length.toInt32, .int 0]) :: O) P (fun v0 O' P' => v0 = none ∧ ((v, ArrC Z .byte (enc cs ++ r)) :: (x, ObjC Z "java/lang/StringBuilder" shSB [.ref v, .int (0 : Int32), .int (cs).length.toInt32, .int 0]) :: O) = O' ∧ P = P') := by
  obtain ⟨hw, hs0, hEL, hS, ⟨cs0, hC0, hcs0⟩, ⟨fv, hFv, hfv⟩, hAD, hHI, hLO, hmore⟩ := id E0
  refine con_intro (plainFor_of_name pn_8) hEL (fun m => ef_inf m _ _) ?_
  intro p e s m below meth c T W hnm
  refine g_getS W hC0 (own_w hw 53 rfl) d26_0 (q := 3) rfl fun T W => ?_
  refine g_ifN W d26_3 (q := 6) (XT.i0_eq_f hcs0) rfl ?_
  refine g_aloadN W d26_6 (q := 7) rfl rfl rfl ?_
  refine g_getF W (W.ow (i := 1) rfl) (i := 1) (v := .int (0 : Int32)) rfl rfl (own_w hw 56 rfl) d26_7 (q := 10) rfl fun T W => ?_
  refine g_aloadN W d26_10 (q := 11) rfl rfl rfl ?_
  refine g_virtual W (con_coder l Z a0 E0 _ P y b1 (0 : Int32) rfl hy1) (own_ex (W.rd hy1) fun _ h => h.1) (argsL := []) (rest := [(.int (0 : Int32))]) rfl rfl pd_14 rfl (own_w hw 96 rfl) (own_w hw 75 rfl) (own_w hw 77 rfl) (own_w hw 76 rfl) (own_w hw 3 rfl) (own_w hw 78 rfl) (by decide) d26_11 (q := 14) rfl rfl (Nat.le_of_ble_eq_true rfl) (Nat.le_of_ble_eq_true rfl) (Nat.le_of_ble_eq_true rfl) (Nat.le_of_ble_eq_true rfl) ?_
  rintro _ _ _ T ⟨rfl, rfl, rfl⟩ W
  refine g_icY W d26_14 (q := 21) (XT.ii_eq_t (by decide)) (by decide) (by decide) ?_
  exact g_retV W rfl d26_21 (Nat.le_of_ble_eq_true rfl) (Nat.le_of_ble_eq_true rfl) ⟨rfl, rfl, rfl⟩
theorem pd_17 : parseMethodDescriptor "()V" = some ⟨[], none⟩ := by decide +kernel
set_option maxRecDepth 65536 in
set_option maxHeartbeats 40000000 in
theorem con_inf01 {kn : Prop} (l : Launch) (Z : State) (a0 : Array Value) (E0 : Env0 Z a0) (O P : List Ent) (x v : Addr) (cs : List Int32) (r : List Value) (y b1 : Addr) (hy1 : (y, ObjC Z "java/lang/String" shStr [.ref b1, .int (1 : Int32)]) ∈ P) (cap N : Nat) (hc : cs.length + r.length = cap) (hlatc : ∀ d ∈ cs, 0 ≤ d.toInt ∧ d.toInt ≤ 255) (hcap : cap ≤ N) (hN : N ≤ 20000) :
    Con kn l Z EL0 (⟨"java/lang/AbstractStringBuilder", "inflateIfNeededFor", "(Ljava/lang/String;)V"⟩ : MethodName) jdk_68_method_71_code 2 none [] ({ frames := 6, cells := 1, slots := 2 * N, locals := 95 } : Room) #[.ref x, .ref y] ((v, ArrC Z .byte (enc cs ++ r)) :: (x, ObjC Z "java/lang/StringBuilder" shSB [.ref v, .int (0 : Int32), .int (cs).length.toInt32, .int 0]) :: O) P (fun v0 O' P' => ∃ v' r', v0 = none ∧ O' = ((v', ArrC Z .byte (enc16 cs ++ r')) :: (x, ObjC Z "java/lang/StringBuilder" shSB [.ref v', .int (1 : Int32), .int (cs).length.toInt32, .int 0]) :: O) ∧ P = P' ∧ 2 * cs.length + r'.length = 2 * cap) := by
  obtain ⟨hw, hs0, hEL, hS, ⟨cs0, hC0, hcs0⟩, ⟨fv, hFv, hfv⟩, hAD, hHI, hLO, hmore⟩ := id E0
  refine con_intro (plainFor_of_name pn_8) hEL (fun m => ef_inf m _ _) ?_
  intro p e s m below meth c T W hnm
  refine g_getS W hC0 (own_w hw 53 rfl) d26_0 (q := 3) rfl fun T W => ?_
  refine g_ifN W d26_3 (q := 6) (XT.i0_eq_f hcs0) rfl ?_
  refine g_aloadN W d26_6 (q := 7) rfl rfl rfl ?_
  refine g_getF W (W.ow (i := 1) rfl) (i := 1) (v := .int (0 : Int32)) rfl rfl (own_w hw 56 rfl) d26_7 (q := 10) rfl fun T W => ?_
  refine g_aloadN W d26_10 (q := 11) rfl rfl rfl ?_
  refine g_virtual W (con_coder l Z a0 E0 _ P y b1 (1 : Int32) rfl hy1) (own_ex (W.rd hy1) fun _ h => h.1) (argsL := []) (rest := [(.int (0 : Int32))]) rfl rfl pd_14 rfl (own_w hw 96 rfl) (own_w hw 75 rfl) (own_w hw 77 rfl) (own_w hw 76 rfl) (own_w hw 3 rfl) (own_w hw 78 rfl) (by decide) d26_11 (q := 14) rfl rfl (Nat.le_of_ble_eq_true rfl) (Nat.le_of_ble_eq_true rfl) (Nat.le_of_ble_eq_true rfl) (by dsimp only; omega) ?_
  rintro _ _ _ T ⟨rfl, rfl, rfl⟩ W
  refine g_icN W d26_14 (q := 17) (XT.ii_eq_f (by decide)) rfl ?_
  refine g_aloadN W d26_17 (q := 18) rfl rfl rfl ?_
  refine g_privUp W (con_ifl0 l Z a0 E0 O P x v cs r cap N hc hlatc hcap hN) (D := "java/lang/StringBuilder") (own_ex (W.ow (i := 1) rfl) fun _ h => h.1) (argsL := []) (rest := []) rfl rfl pd_17 rfl (own_w hw 284 rfl) (own_w hw 285 rfl) (own_w hw 286 rfl) (own_w hw 287 rfl) (own_w hw 50 rfl) (own_w hw 288 rfl) (by decide) d26_18 (q := 21) rfl rfl (Nat.le_of_ble_eq_true rfl) (Nat.le_of_ble_eq_true rfl) (Nat.le_of_ble_eq_true rfl) (by dsimp only; omega) ?_
  rintro _ _ _ T ⟨v', r', rfl, rfl, rfl, hr'⟩ W
  exact g_retV W rfl d26_21 (Nat.le_of_ble_eq_true rfl) (by dsimp only; omega) ⟨v', r', rfl, rfl, rfl, hr'⟩
set_option maxRecDepth 65536 in
set_option maxHeartbeats 40000000 in
theorem con_inf10 {kn : Prop} (l : Launch) (Z : State) (a0 : Array Value) (E0 : Env0 Z a0) (O P : List Ent) (x v : Addr) (cs : List Int32) (r : List Value) (y b1 : Addr) (hy1 : (y, ObjC Z "java/lang/String" shStr [.ref b1, .int (0 : Int32)]) ∈ P)  :
    Con kn l Z EL0 (⟨"java/lang/AbstractStringBuilder", "inflateIfNeededFor", "(Ljava/lang/String;)V"⟩ : MethodName) jdk_68_method_71_code 2 none [] ({ frames := 2, cells := 0, slots := 0, locals := 30 } : Room) #[.ref x, .ref y] ((v, ArrC Z .byte (enc16 cs ++ r)) :: (x, ObjC Z "java/lang/StringBuilder" shSB [.ref v, .int (1 : Int32), .int (cs).length.toInt32, .int 0]) :: O) P (fun v0 O' P' => v0 = none ∧ ((v, ArrC Z .byte (enc16 cs ++ r)) :: (x, ObjC Z "java/lang/StringBuilder" shSB [.ref v, .int (1 : Int32), .int (cs).length.toInt32, .int 0]) :: O) = O' ∧ P = P') := by
  obtain ⟨hw, hs0, hEL, hS, ⟨cs0, hC0, hcs0⟩, ⟨fv, hFv, hfv⟩, hAD, hHI, hLO, hmore⟩ := id E0
  refine con_intro (plainFor_of_name pn_8) hEL (fun m => ef_inf m _ _) ?_
  intro p e s m below meth c T W hnm
  refine g_getS W hC0 (own_w hw 53 rfl) d26_0 (q := 3) rfl fun T W => ?_
  refine g_ifN W d26_3 (q := 6) (XT.i0_eq_f hcs0) rfl ?_
  refine g_aloadN W d26_6 (q := 7) rfl rfl rfl ?_
  refine g_getF W (W.ow (i := 1) rfl) (i := 1) (v := .int (1 : Int32)) rfl rfl (own_w hw 56 rfl) d26_7 (q := 10) rfl fun T W => ?_
  refine g_aloadN W d26_10 (q := 11) rfl rfl rfl ?_
  refine g_virtual W (con_coder l Z a0 E0 _ P y b1 (0 : Int32) rfl hy1) (own_ex (W.rd hy1) fun _ h => h.1) (argsL := []) (rest := [(.int (1 : Int32))]) rfl rfl pd_14 rfl (own_w hw 96 rfl) (own_w hw 75 rfl) (own_w hw 77 rfl) (own_w hw 76 rfl) (own_w hw 3 rfl) (own_w hw 78 rfl) (by decide) d26_11 (q := 14) rfl rfl (Nat.le_of_ble_eq_true rfl) (Nat.le_of_ble_eq_true rfl) (Nat.le_of_ble_eq_true rfl) (Nat.le_of_ble_eq_true rfl) ?_
  rintro _ _ _ T ⟨rfl, rfl, rfl⟩ W
  refine g_icN W d26_14 (q := 17) (XT.ii_eq_f (by decide)) rfl ?_
  refine g_aloadN W d26_17 (q := 18) rfl rfl rfl ?_
  refine g_privUp W (con_ifl1 l Z a0 E0 O P x v cs r) (D := "java/lang/StringBuilder") (own_ex (W.ow (i := 1) rfl) fun _ h => h.1) (argsL := []) (rest := []) rfl rfl pd_17 rfl (own_w hw 284 rfl) (own_w hw 285 rfl) (own_w hw 286 rfl) (own_w hw 287 rfl) (own_w hw 50 rfl) (own_w hw 288 rfl) (by decide) d26_18 (q := 21) rfl rfl (Nat.le_of_ble_eq_true rfl) (Nat.le_of_ble_eq_true rfl) (Nat.le_of_ble_eq_true rfl) (Nat.le_of_ble_eq_true rfl) ?_
  rintro _ _ _ T ⟨rfl, rfl, rfl⟩ W
  exact g_retV W rfl d26_21 (Nat.le_of_ble_eq_true rfl) (Nat.le_of_ble_eq_true rfl) ⟨rfl, rfl, rfl⟩
set_option maxRecDepth 65536 in
set_option maxHeartbeats 40000000 in
theorem con_inf11 {kn : Prop} (l : Launch) (Z : State) (a0 : Array Value) (E0 : Env0 Z a0) (O P : List Ent) (x v : Addr) (cs : List Int32) (r : List Value) (y b1 : Addr) (hy1 : (y, ObjC Z "java/lang/String" shStr [.ref b1, .int (1 : Int32)]) ∈ P)  :
    Con kn l Z EL0 (⟨"java/lang/AbstractStringBuilder", "inflateIfNeededFor", "(Ljava/lang/String;)V"⟩ : MethodName) jdk_68_method_71_code 2 none [] ({ frames := 2, cells := 0, slots := 0, locals := 30 } : Room) #[.ref x, .ref y] ((v, ArrC Z .byte (enc16 cs ++ r)) :: (x, ObjC Z "java/lang/StringBuilder" shSB [.ref v, .int (1 : Int32), .int (cs).length.toInt32, .int 0]) :: O) P (fun v0 O' P' => v0 = none ∧ ((v, ArrC Z .byte (enc16 cs ++ r)) :: (x, ObjC Z "java/lang/StringBuilder" shSB [.ref v, .int (1 : Int32), .int (cs).length.toInt32, .int 0]) :: O) = O' ∧ P = P') := by
  obtain ⟨hw, hs0, hEL, hS, ⟨cs0, hC0, hcs0⟩, ⟨fv, hFv, hfv⟩, hAD, hHI, hLO, hmore⟩ := id E0
  refine con_intro (plainFor_of_name pn_8) hEL (fun m => ef_inf m _ _) ?_
  intro p e s m below meth c T W hnm
  refine g_getS W hC0 (own_w hw 53 rfl) d26_0 (q := 3) rfl fun T W => ?_
  refine g_ifN W d26_3 (q := 6) (XT.i0_eq_f hcs0) rfl ?_
  refine g_aloadN W d26_6 (q := 7) rfl rfl rfl ?_
  refine g_getF W (W.ow (i := 1) rfl) (i := 1) (v := .int (1 : Int32)) rfl rfl (own_w hw 56 rfl) d26_7 (q := 10) rfl fun T W => ?_
  refine g_aloadN W d26_10 (q := 11) rfl rfl rfl ?_
  refine g_virtual W (con_coder l Z a0 E0 _ P y b1 (1 : Int32) rfl hy1) (own_ex (W.rd hy1) fun _ h => h.1) (argsL := []) (rest := [(.int (1 : Int32))]) rfl rfl pd_14 rfl (own_w hw 96 rfl) (own_w hw 75 rfl) (own_w hw 77 rfl) (own_w hw 76 rfl) (own_w hw 3 rfl) (own_w hw 78 rfl) (by decide) d26_11 (q := 14) rfl rfl (Nat.le_of_ble_eq_true rfl) (Nat.le_of_ble_eq_true rfl) (Nat.le_of_ble_eq_true rfl) (Nat.le_of_ble_eq_true rfl) ?_
  rintro _ _ _ T ⟨rfl, rfl, rfl⟩ W
  refine g_icY W d26_14 (q := 21) (XT.ii_eq_t (by decide)) (by decide) (by decide) ?_
  exact g_retV W rfl d26_21 (Nat.le_of_ble_eq_true rfl) (Nat.le_of_ble_eq_true rfl) ⟨rfl, rfl, rfl⟩
theorem d27_0 : decode jdk_42_method_147_code 0 = .ok (.aload_n 0, 1) := by decide +kernel
theorem d27_1 : decode jdk_42_method_147_code 1 = .ok (.invokevirtual 335, 3) := by decide +kernel
theorem d27_4 : decode jdk_42_method_147_code 4 = .ok (.iload_n 3, 1) := by decide +kernel
theorem d27_5 : decode jdk_42_method_147_code 5 = .ok (.if_icmp .ne 23, 3) := by decide +kernel
theorem d27_8 : decode jdk_42_method_147_code 8 = .ok (.aload_n 0, 1) := by decide +kernel
theorem d27_9 : decode jdk_42_method_147_code 9 = .ok (.getfield 9, 3) := by decide +kernel
theorem d27_12 : decode jdk_42_method_147_code 12 = .ok (.iconst 0, 1) := by decide +kernel
theorem d27_13 : decode jdk_42_method_147_code 13 = .ok (.aload_n 1, 1) := by decide +kernel
theorem d27_14 : decode jdk_42_method_147_code 14 = .ok (.iload_n 2, 1) := by decide +kernel
theorem d27_15 : decode jdk_42_method_147_code 15 = .ok (.iload_n 3, 1) := by decide +kernel
theorem d27_16 : decode jdk_42_method_147_code 16 = .ok (.ishl, 1) := by decide +kernel
theorem d27_17 : decode jdk_42_method_147_code 17 = .ok (.aload_n 0, 1) := by decide +kernel
theorem d27_18 : decode jdk_42_method_147_code 18 = .ok (.getfield 9, 3) := by decide +kernel
theorem d27_21 : decode jdk_42_method_147_code 21 = .ok (.arraylength, 1) := by decide +kernel
theorem d27_22 : decode jdk_42_method_147_code 22 = .ok (.invokestatic 212, 3) := by decide +kernel
theorem d27_25 : decode jdk_42_method_147_code 25 = .ok (.goto 18, 3) := by decide +kernel
theorem d27_28 : decode jdk_42_method_147_code 28 = .ok (.aload_n 0, 1) := by decide +kernel
theorem d27_29 : decode jdk_42_method_147_code 29 = .ok (.getfield 9, 3) := by decide +kernel
theorem d27_32 : decode jdk_42_method_147_code 32 = .ok (.iconst 0, 1) := by decide +kernel
theorem d27_33 : decode jdk_42_method_147_code 33 = .ok (.aload_n 1, 1) := by decide +kernel
theorem d27_34 : decode jdk_42_method_147_code 34 = .ok (.iload_n 2, 1) := by decide +kernel
theorem d27_35 : decode jdk_42_method_147_code 35 = .ok (.aload_n 0, 1) := by decide +kernel
theorem d27_36 : decode jdk_42_method_147_code 36 = .ok (.getfield 9, 3) := by decide +kernel
theorem d27_39 : decode jdk_42_method_147_code 39 = .ok (.arraylength, 1) := by decide +kernel
theorem d27_40 : decode jdk_42_method_147_code 40 = .ok (.invokestatic 106, 3) := by decide +kernel
theorem d27_43 : decode jdk_42_method_147_code 43 = .ok (.return_, 1) := by decide +kernel
theorem ef_gby (m : MethodId) (y : Addr) (v : Addr) (i : Int32) (z : Int32) : entryFrame m #[(.ref y), (.ref v), (.int i), (.int z)] 4 = mkF m 0 #[.val (.ref y), .val (.ref v), .val (.int i), .val (.int z)] [] := by first | (simp [entryFrame, mkF, argsToLocals, Value.category]; done) | rfl
set_option maxRecDepth 65536 in
set_option maxHeartbeats 40000000 in
theorem con_gby00 {kn : Prop} (l : Launch) (Z : State) (a0 : Array Value) (E0 : Env0 Z a0) (O P : List Ent) (v : Addr) (cs : List Int32) (r : List Value) (y b1 : Addr) (ds : List Int32) (hy1 : (y, ObjC Z "java/lang/String" shStr [.ref b1, .int (0 : Int32)]) ∈ P) (hb1 : (b1, ArrC Z .byte (enc ds)) ∈ P) (hlat : ∀ d ∈ ds, 0 ≤ d.toInt ∧ d.toInt ≤ 255) (cap : Nat) (hc : cs.length + r.length = cap) (hcap : cs.length + ds.length ≤ cap) (hl : cap ≤ 10000) :
    Con kn l Z EL0 (⟨"java/lang/String", "getBytes", "([BIB)V"⟩ : MethodName) jdk_42_method_147_code 4 none [] ({ frames := 5, cells := 0, slots := 0, locals := 80 } : Room) #[.ref y, .ref v, .int cs.length.toInt32, .int (0 : Int32)] ((v, ArrC Z .byte (enc cs ++ r)) :: O) P (fun v0 O' P' => v0 = none ∧ O' = (v, ArrC Z .byte (enc (cs ++ ds) ++ r.drop (ds.length))) :: O ∧ P = P') := by
  obtain ⟨hw, hs0, hEL, hS, ⟨cs0, hC0, hcs0⟩, ⟨fv, hFv, hfv⟩, hAD, hHI, hLO, hmore⟩ := id E0
  refine con_intro (plainFor_of_name pn_1) hEL (fun m => ef_gby m _ _ _ _) ?_
  intro p e s m below meth c T W hnm
  refine g_aloadN W d27_0 (q := 1) rfl rfl rfl ?_
  refine g_virtual W (con_coder l Z a0 E0 _ P y b1 (0 : Int32) rfl hy1) (own_ex (W.rd hy1) fun _ h => h.1) (argsL := []) (rest := []) rfl rfl pd_14 rfl (own_w hw 74 rfl) (own_w hw 75 rfl) (own_w hw 77 rfl) (own_w hw 76 rfl) (own_w hw 3 rfl) (own_w hw 78 rfl) (by decide) d27_1 (q := 4) rfl rfl (Nat.le_of_ble_eq_true rfl) (Nat.le_of_ble_eq_true rfl) (Nat.le_of_ble_eq_true rfl) (Nat.le_of_ble_eq_true rfl) ?_
  rintro _ _ _ T ⟨rfl, rfl, rfl⟩ W
  refine g_iloadN W d27_4 (q := 5) rfl rfl ?_
  refine g_icN W d27_5 (q := 8) (XT.ii_ne_f (by decide)) rfl ?_
  refine g_aloadN W d27_8 (q := 9) rfl rfl rfl ?_
  refine g_getF W (W.rd hy1) (i := 0) (v := .ref b1) rfl rfl (own_w hw 29 rfl) d27_9 (q := 12) rfl fun T W => ?_
  refine g_iconst W (v := (0 : Int32)) d27_12 (q := 13) rfl rfl ?_
  refine g_aloadN W d27_13 (q := 14) rfl rfl rfl ?_
  refine g_iloadN W d27_14 (q := 15) rfl rfl ?_
  refine g_iloadN W d27_15 (q := 16) rfl rfl ?_
  refine g_ishl W d27_16 (q := 17) (z := (cs.length).toInt32) (own_shl0 _) rfl ?_
  refine g_aloadN W d27_17 (q := 18) rfl rfl rfl ?_
  refine g_getF W (W.rd hy1) (i := 0) (v := .ref b1) rfl rfl (own_w hw 29 rfl) d27_18 (q := 21) rfl fun T W => ?_
  refine g_len W (W.rd hb1) (z := (ds.length).toInt32) (by rw [enc_len]) d27_21 (q := 22) rfl ?_
  refine g_copy W (i := 0) (sp := 0) (dp := (cs.length)) (nn := (ds.length)) (W.rd hb1) rfl rfl rfl rfl rfl (by rw [enc_len]; omega) (by rw [List.length_append, enc_len]; omega) (own_w hw 102 rfl) (own_w hw 105 rfl) (own_w hw 103 rfl) (own_w hw 104 rfl) d27_22 (q := 25) rfl rfl (Nat.le_of_ble_eq_true rfl) (Nat.le_of_ble_eq_true rfl) (vd' := enc (cs ++ ds) ++ r.drop (ds.length)) own_put (O' := (v, ArrC Z .byte (enc (cs ++ ds) ++ r.drop (ds.length))) :: O) rfl fun T W => ?_
  refine g_goto W d27_25 (q := 43) (by decide) (by decide) ?_
  exact g_retV W rfl d27_43 (Nat.le_of_ble_eq_true rfl) (Nat.le_of_ble_eq_true rfl) ⟨rfl, rfl, rfl⟩
set_option maxRecDepth 65536 in
set_option maxHeartbeats 40000000 in
theorem con_gby11 {kn : Prop} (l : Launch) (Z : State) (a0 : Array Value) (E0 : Env0 Z a0) (O P : List Ent) (v : Addr) (cs : List Int32) (r : List Value) (y b1 : Addr) (ds : List Int32) (hy1 : (y, ObjC Z "java/lang/String" shStr [.ref b1, .int (1 : Int32)]) ∈ P) (hb1 : (b1, ArrC Z .byte (enc16 ds)) ∈ P) (cap : Nat) (hc : 2 * cs.length + r.length = 2 * cap) (hcap : cs.length + ds.length ≤ cap) (hl : cap ≤ 10000) :
    Con kn l Z EL0 (⟨"java/lang/String", "getBytes", "([BIB)V"⟩ : MethodName) jdk_42_method_147_code 4 none [] ({ frames := 5, cells := 0, slots := 0, locals := 80 } : Room) #[.ref y, .ref v, .int cs.length.toInt32, .int (1 : Int32)] ((v, ArrC Z .byte (enc16 cs ++ r)) :: O) P (fun v0 O' P' => v0 = none ∧ O' = (v, ArrC Z .byte (enc16 (cs ++ ds) ++ r.drop (2 * ds.length))) :: O ∧ P = P') := by
  obtain ⟨hw, hs0, hEL, hS, ⟨cs0, hC0, hcs0⟩, ⟨fv, hFv, hfv⟩, hAD, hHI, hLO, hmore⟩ := id E0
  refine con_intro (plainFor_of_name pn_1) hEL (fun m => ef_gby m _ _ _ _) ?_
  intro p e s m below meth c T W hnm
  refine g_aloadN W d27_0 (q := 1) rfl rfl rfl ?_
  refine g_virtual W (con_coder l Z a0 E0 _ P y b1 (1 : Int32) rfl hy1) (own_ex (W.rd hy1) fun _ h => h.1) (argsL := []) (rest := []) rfl rfl pd_14 rfl (own_w hw 74 rfl) (own_w hw 75 rfl) (own_w hw 77 rfl) (own_w hw 76 rfl) (own_w hw 3 rfl) (own_w hw 78 rfl) (by decide) d27_1 (q := 4) rfl rfl (Nat.le_of_ble_eq_true rfl) (Nat.le_of_ble_eq_true rfl) (Nat.le_of_ble_eq_true rfl) (Nat.le_of_ble_eq_true rfl) ?_
  rintro _ _ _ T ⟨rfl, rfl, rfl⟩ W
  refine g_iloadN W d27_4 (q := 5) rfl rfl ?_
  refine g_icN W d27_5 (q := 8) (XT.ii_ne_f (by decide)) rfl ?_
  refine g_aloadN W d27_8 (q := 9) rfl rfl rfl ?_
  refine g_getF W (W.rd hy1) (i := 0) (v := .ref b1) rfl rfl (own_w hw 29 rfl) d27_9 (q := 12) rfl fun T W => ?_
  refine g_iconst W (v := (0 : Int32)) d27_12 (q := 13) rfl rfl ?_
  refine g_aloadN W d27_13 (q := 14) rfl rfl rfl ?_
  refine g_iloadN W d27_14 (q := 15) rfl rfl ?_
  refine g_iloadN W d27_15 (q := 16) rfl rfl ?_
  refine g_ishl W d27_16 (q := 17) (z := (2 * cs.length).toInt32) (own_shl1 (by omega)) rfl ?_
  refine g_aloadN W d27_17 (q := 18) rfl rfl rfl ?_
  refine g_getF W (W.rd hy1) (i := 0) (v := .ref b1) rfl rfl (own_w hw 29 rfl) d27_18 (q := 21) rfl fun T W => ?_
  refine g_len W (W.rd hb1) (z := (2 * ds.length).toInt32) (by rw [enc16_len]) d27_21 (q := 22) rfl ?_
  refine g_copy W (i := 0) (sp := 0) (dp := (2 * cs.length)) (nn := (2 * ds.length)) (W.rd hb1) rfl rfl rfl rfl rfl (by rw [enc16_len]; omega) (by rw [List.length_append, enc16_len]; omega) (own_w hw 102 rfl) (own_w hw 105 rfl) (own_w hw 103 rfl) (own_w hw 104 rfl) d27_22 (q := 25) rfl rfl (Nat.le_of_ble_eq_true rfl) (Nat.le_of_ble_eq_true rfl) (vd' := enc16 (cs ++ ds) ++ r.drop (2 * ds.length)) own_putW (O' := (v, ArrC Z .byte (enc16 (cs ++ ds) ++ r.drop (2 * ds.length))) :: O) rfl fun T W => ?_
  refine g_goto W d27_25 (q := 43) (by decide) (by decide) ?_
  exact g_retV W rfl d27_43 (Nat.le_of_ble_eq_true rfl) (Nat.le_of_ble_eq_true rfl) ⟨rfl, rfl, rfl⟩
set_option maxRecDepth 65536 in
set_option maxHeartbeats 40000000 in
theorem con_gby10 {kn : Prop} (l : Launch) (Z : State) (a0 : Array Value) (E0 : Env0 Z a0) (O P : List Ent) (v : Addr) (cs : List Int32) (r : List Value) (y b1 : Addr) (ds : List Int32) (hy1 : (y, ObjC Z "java/lang/String" shStr [.ref b1, .int (0 : Int32)]) ∈ P) (hb1 : (b1, ArrC Z .byte (enc ds)) ∈ P) (hlat : ∀ d ∈ ds, 0 ≤ d.toInt ∧ d.toInt ≤ 255) (cap : Nat) (hc : 2 * cs.length + r.length = 2 * cap) (hcap : cs.length + ds.length ≤ cap) (hl : cap ≤ 10000) :
    Con kn l Z EL0 (⟨"java/lang/String", "getBytes", "([BIB)V"⟩ : MethodName) jdk_42_method_147_code 4 none [] ({ frames := 5, cells := 0, slots := 0, locals := 80 } : Room) #[.ref y, .ref v, .int cs.length.toInt32, .int (1 : Int32)] ((v, ArrC Z .byte (enc16 cs ++ r)) :: O) P (fun v0 O' P' => v0 = none ∧ O' = (v, ArrC Z .byte (enc16 (cs ++ ds) ++ r.drop (2 * ds.length))) :: O ∧ P = P') := by
  obtain ⟨hw, hs0, hEL, hS, ⟨cs0, hC0, hcs0⟩, ⟨fv, hFv, hfv⟩, hAD, hHI, hLO, hmore⟩ := id E0
  refine con_intro (plainFor_of_name pn_1) hEL (fun m => ef_gby m _ _ _ _) ?_
  intro p e s m below meth c T W hnm
  refine g_aloadN W d27_0 (q := 1) rfl rfl rfl ?_
  refine g_virtual W (con_coder l Z a0 E0 _ P y b1 (0 : Int32) rfl hy1) (own_ex (W.rd hy1) fun _ h => h.1) (argsL := []) (rest := []) rfl rfl pd_14 rfl (own_w hw 74 rfl) (own_w hw 75 rfl) (own_w hw 77 rfl) (own_w hw 76 rfl) (own_w hw 3 rfl) (own_w hw 78 rfl) (by decide) d27_1 (q := 4) rfl rfl (Nat.le_of_ble_eq_true rfl) (Nat.le_of_ble_eq_true rfl) (Nat.le_of_ble_eq_true rfl) (Nat.le_of_ble_eq_true rfl) ?_
  rintro _ _ _ T ⟨rfl, rfl, rfl⟩ W
  refine g_iloadN W d27_4 (q := 5) rfl rfl ?_
  refine g_icY W d27_5 (q := 28) (XT.ii_ne_t (by decide)) (by decide) (by decide) ?_
  refine g_aloadN W d27_28 (q := 29) rfl rfl rfl ?_
  refine g_getF W (W.rd hy1) (i := 0) (v := .ref b1) rfl rfl (own_w hw 29 rfl) d27_29 (q := 32) rfl fun T W => ?_
  refine g_iconst W (v := (0 : Int32)) d27_32 (q := 33) rfl rfl ?_
  refine g_aloadN W d27_33 (q := 34) rfl rfl rfl ?_
  refine g_iloadN W d27_34 (q := 35) rfl rfl ?_
  refine g_aloadN W d27_35 (q := 36) rfl rfl rfl ?_
  refine g_getF W (W.rd hy1) (i := 0) (v := .ref b1) rfl rfl (own_w hw 29 rfl) d27_36 (q := 39) rfl fun T W => ?_
  refine g_len W (W.rd hb1) (z := ds.length.toInt32) (by rw [enc_len]) d27_39 (q := 40) rfl ?_
  refine g_static W (con_linf l Z a0 E0 O P b1 v cs ds [] r (by rw [List.append_nil]; exact Or.inr hb1) hlat (by omega) (by omega) (by omega) cap hc (by omega)) (argsL := [(.ref b1), (.int (0 : Int32)), (.ref v), (.int cs.length.toInt32), (.int ds.length.toInt32)]) (rest := []) rfl rfl pd_12 rfl (own_w hw 311 rfl) (own_w hw 292 rfl) (own_w hw 263 rfl) (own_w hw 293 rfl) (by decide) d27_40 (q := 43) rfl rfl (Nat.le_of_ble_eq_true rfl) (Nat.le_of_ble_eq_true rfl) (Nat.le_of_ble_eq_true rfl) (Nat.le_of_ble_eq_true rfl) ?_
  rintro _ _ _ T ⟨rfl, rfl, rfl⟩ W
  exact g_retV W rfl d27_43 (Nat.le_of_ble_eq_true rfl) (Nat.le_of_ble_eq_true rfl) ⟨rfl, rfl, rfl⟩
theorem d28_0 : decode jdk_68_method_73_code 0 = .ok (.aload_n 0, 1) := by decide +kernel
theorem d28_1 : decode jdk_68_method_73_code 1 = .ok (.aload_n 2, 1) := by decide +kernel
theorem d28_2 : decode jdk_68_method_73_code 2 = .ok (.invokevirtual 397, 3) := by decide +kernel
theorem d28_5 : decode jdk_68_method_73_code 5 = .ok (.aload_n 2, 1) := by decide +kernel
theorem d28_6 : decode jdk_68_method_73_code 6 = .ok (.aload_n 0, 1) := by decide +kernel
theorem d28_7 : decode jdk_68_method_73_code 7 = .ok (.getfield 15, 3) := by decide +kernel
theorem d28_10 : decode jdk_68_method_73_code 10 = .ok (.iload_n 1, 1) := by decide +kernel
theorem d28_11 : decode jdk_68_method_73_code 11 = .ok (.aload_n 0, 1) := by decide +kernel
theorem d28_12 : decode jdk_68_method_73_code 12 = .ok (.getfield 22, 3) := by decide +kernel
theorem d28_15 : decode jdk_68_method_73_code 15 = .ok (.invokevirtual 399, 3) := by decide +kernel
theorem d28_18 : decode jdk_68_method_73_code 18 = .ok (.return_, 1) := by decide +kernel
theorem ef_psa (m : MethodId) (x : Addr) (i : Int32) (y : Addr) : entryFrame m #[(.ref x), (.int i), (.ref y)] 3 = mkF m 0 #[.val (.ref x), .val (.int i), .val (.ref y)] [] := by first | (simp [entryFrame, mkF, argsToLocals, Value.category]; done) | rfl
theorem pd_18 : parseMethodDescriptor "(Ljava/lang/String;)V" = some ⟨[(.object "java/lang/String")], none⟩ := by decide +kernel
theorem pd_19 : parseMethodDescriptor "([BIB)V" = some ⟨[(.array .byte), .int, .byte], none⟩ := by decide +kernel
set_option maxRecDepth 65536 in
set_option maxHeartbeats 40000000 in
theorem con_psa00 {kn : Prop} (l : Launch) (Z : State) (a0 : Array Value) (E0 : Env0 Z a0) (O P : List Ent) (x v : Addr) (cs : List Int32) (r : List Value) (y b1 : Addr) (ds : List Int32) (hy1 : (y, ObjC Z "java/lang/String" shStr [.ref b1, .int (0 : Int32)]) ∈ P) (hb1 : (b1, ArrC Z .byte (enc ds)) ∈ P) (hlat : ∀ d ∈ ds, 0 ≤ d.toInt ∧ d.toInt ≤ 255) (cap N : Nat) (hc : cs.length + r.length = cap) (hcap : cs.length + ds.length ≤ cap) (hcN : cap ≤ N) (hN : N ≤ 10000) :
    Con kn l Z EL0 (⟨"java/lang/AbstractStringBuilder", "putStringAt", "(ILjava/lang/String;)V"⟩ : MethodName) jdk_68_method_73_code 3 none [] ({ frames := 7, cells := 1, slots := 2 * N, locals := 110 } : Room) #[.ref x, .int cs.length.toInt32, .ref y] ((v, ArrC Z .byte (enc cs ++ r)) :: (x, ObjC Z "java/lang/StringBuilder" shSB [.ref v, .int (0 : Int32), .int (cs).length.toInt32, .int 0]) :: O) P (fun v0 O' P' => ∃ v' r', v0 = none ∧ O' = (v', ArrC Z .byte (enc (cs ++ ds) ++ r')) :: (x, ObjC Z "java/lang/StringBuilder" shSB [.ref v', .int (0 : Int32), .int cs.length.toInt32, .int 0]) :: O ∧ P = P' ∧ (cs.length + ds.length) + r'.length = cap) := by
  obtain ⟨hw, hs0, hEL, hS, ⟨cs0, hC0, hcs0⟩, ⟨fv, hFv, hfv⟩, hAD, hHI, hLO, hmore⟩ := id E0
  refine con_intro (plainFor_of_name pn_8) hEL (fun m => ef_psa m _ _ _) ?_
  intro p e s m below meth c T W hnm
  refine g_aloadN W d28_0 (q := 1) rfl rfl rfl ?_
  refine g_aloadN W d28_1 (q := 2) rfl rfl rfl ?_
  refine g_privUp W (con_inf00 l Z a0 E0 O P x v cs r y b1 hy1) (D := "java/lang/StringBuilder") (own_ex (W.ow (i := 1) rfl) fun _ h => h.1) (argsL := [(.ref y)]) (rest := []) rfl rfl pd_18 rfl (own_w hw 91 rfl) (own_w hw 92 rfl) (own_w hw 93 rfl) (own_w hw 94 rfl) (own_w hw 50 rfl) (own_w hw 95 rfl) (by decide) d28_2 (q := 5) rfl rfl (Nat.le_of_ble_eq_true rfl) (Nat.le_of_ble_eq_true rfl) (Nat.le_of_ble_eq_true rfl) (by dsimp only; omega) ?_
  rintro _ _ _ T ⟨rfl, rfl, rfl⟩ W
  refine g_aloadN W d28_5 (q := 6) rfl rfl rfl ?_
  refine g_aloadN W d28_6 (q := 7) rfl rfl rfl ?_
  refine g_getF W (W.ow (i := 1) rfl) (i := 0) (v := .ref v) rfl rfl (own_w hw 54 rfl) d28_7 (q := 10) rfl fun T W => ?_
  refine g_iloadN W d28_10 (q := 11) rfl rfl ?_
  refine g_aloadN W d28_11 (q := 12) rfl rfl rfl ?_
  refine g_getF W (W.ow (i := 1) rfl) (i := 1) (v := .int (0 : Int32)) rfl rfl (own_w hw 56 rfl) d28_12 (q := 15) rfl fun T W => ?_
  refine g_virtual W (con_gby00 l Z a0 E0 _ P v cs r y b1 ds hy1 hb1 hlat cap hc hcap (by omega)) (own_ex (W.rd hy1) fun _ h => h.1) (argsL := [(.ref v), (.int cs.length.toInt32), (.int (0 : Int32))]) (rest := []) rfl rfl pd_19 rfl (own_w hw 97 rfl) (own_w hw 98 rfl) (own_w hw 100 rfl) (own_w hw 99 rfl) (own_w hw 3 rfl) (own_w hw 101 rfl) (by decide) d28_15 (q := 18) rfl rfl (Nat.le_of_ble_eq_true rfl) (Nat.le_of_ble_eq_true rfl) (Nat.le_of_ble_eq_true rfl) (by dsimp only; omega) ?_
  rintro _ _ _ T ⟨rfl, rfl, rfl⟩ W
  exact g_retV W rfl d28_18 (Nat.le_of_ble_eq_true rfl) (by dsimp only; omega) ⟨v, r.drop (ds.length), rfl, rfl, rfl, by rw [List.length_drop]; omega⟩
set_option maxRecDepth 65536 in
set_option maxHeartbeats 40000000 in
theorem con_psa01 {kn : Prop} (l : Launch) (Z : State) (a0 : Array Value) (E0 : Env0 Z a0) (O P : List Ent) (x v : Addr) (cs : List Int32) (r : List Value) (y b1 : Addr) (ds : List Int32) (hy1 : (y, ObjC Z "java/lang/String" shStr [.ref b1, .int (1 : Int32)]) ∈ P) (hb1 : (b1, ArrC Z .byte (enc16 ds)) ∈ P) (cap N : Nat) (hc : cs.length + r.length = cap) (hcap : cs.length + ds.length ≤ cap) (hcN : cap ≤ N) (hN : N ≤ 10000) (hlatc : ∀ d ∈ cs, 0 ≤ d.toInt ∧ d.toInt ≤ 255) :
    Con kn l Z EL0 (⟨"java/lang/AbstractStringBuilder", "putStringAt", "(ILjava/lang/String;)V"⟩ : MethodName) jdk_68_method_73_code 3 none [] ({ frames := 7, cells := 1, slots := 2 * N, locals := 110 } : Room) #[.ref x, .int cs.length.toInt32, .ref y] ((v, ArrC Z .byte (enc cs ++ r)) :: (x, ObjC Z "java/lang/StringBuilder" shSB [.ref v, .int (0 : Int32), .int (cs).length.toInt32, .int 0]) :: O) P (fun v0 O' P' => ∃ v' r', v0 = none ∧ O' = (v', ArrC Z .byte (enc16 (cs ++ ds) ++ r')) :: (x, ObjC Z "java/lang/StringBuilder" shSB [.ref v', .int (1 : Int32), .int cs.length.toInt32, .int 0]) :: O ∧ P = P' ∧ 2 * (cs.length + ds.length) + r'.length = 2 * cap) := by
  obtain ⟨hw, hs0, hEL, hS, ⟨cs0, hC0, hcs0⟩, ⟨fv, hFv, hfv⟩, hAD, hHI, hLO, hmore⟩ := id E0
  refine con_intro (plainFor_of_name pn_8) hEL (fun m => ef_psa m _ _ _) ?_
  intro p e s m below meth c T W hnm
  refine g_aloadN W d28_0 (q := 1) rfl rfl rfl ?_
  refine g_aloadN W d28_1 (q := 2) rfl rfl rfl ?_
  refine g_privUp W (con_inf01 l Z a0 E0 O P x v cs r y b1 hy1 cap N hc hlatc hcN (by omega)) (D := "java/lang/StringBuilder") (own_ex (W.ow (i := 1) rfl) fun _ h => h.1) (argsL := [(.ref y)]) (rest := []) rfl rfl pd_18 rfl (own_w hw 91 rfl) (own_w hw 92 rfl) (own_w hw 93 rfl) (own_w hw 94 rfl) (own_w hw 50 rfl) (own_w hw 95 rfl) (by decide) d28_2 (q := 5) rfl rfl (Nat.le_of_ble_eq_true rfl) (Nat.le_of_ble_eq_true rfl) (Nat.le_of_ble_eq_true rfl) (by dsimp only; omega) ?_
  rintro _ _ _ T ⟨v2, r2, rfl, rfl, rfl, hr2⟩ W
  refine g_aloadN W d28_5 (q := 6) rfl rfl rfl ?_
  refine g_aloadN W d28_6 (q := 7) rfl rfl rfl ?_
  refine g_getF W (W.ow (i := 1) rfl) (i := 0) (v := .ref v2) rfl rfl (own_w hw 54 rfl) d28_7 (q := 10) rfl fun T W => ?_
  refine g_iloadN W d28_10 (q := 11) rfl rfl ?_
  refine g_aloadN W d28_11 (q := 12) rfl rfl rfl ?_
  refine g_getF W (W.ow (i := 1) rfl) (i := 1) (v := .int (1 : Int32)) rfl rfl (own_w hw 56 rfl) d28_12 (q := 15) rfl fun T W => ?_
  refine g_virtual W (con_gby11 l Z a0 E0 _ P v2 cs r2 y b1 ds hy1 hb1 cap hr2 hcap (by omega)) (own_ex (W.rd hy1) fun _ h => h.1) (argsL := [(.ref v2), (.int cs.length.toInt32), (.int (1 : Int32))]) (rest := []) rfl rfl pd_19 rfl (own_w hw 97 rfl) (own_w hw 98 rfl) (own_w hw 100 rfl) (own_w hw 99 rfl) (own_w hw 3 rfl) (own_w hw 101 rfl) (by decide) d28_15 (q := 18) rfl rfl (Nat.le_of_ble_eq_true rfl) (Nat.le_of_ble_eq_true rfl) (Nat.le_of_ble_eq_true rfl) (by dsimp only; omega) ?_
  rintro _ _ _ T ⟨rfl, rfl, rfl⟩ W
  exact g_retV W rfl d28_18 (Nat.le_of_ble_eq_true rfl) (by dsimp only; omega) ⟨v2, r2.drop (2 * ds.length), rfl, rfl, rfl, by rw [List.length_drop]; omega⟩
set_option maxRecDepth 65536 in
set_option maxHeartbeats 40000000 in
theorem con_psa10 {kn : Prop} (l : Launch) (Z : State) (a0 : Array Value) (E0 : Env0 Z a0) (O P : List Ent) (x v : Addr) (cs : List Int32) (r : List Value) (y b1 : Addr) (ds : List Int32) (hy1 : (y, ObjC Z "java/lang/String" shStr [.ref b1, .int (0 : Int32)]) ∈ P) (hb1 : (b1, ArrC Z .byte (enc ds)) ∈ P) (hlat : ∀ d ∈ ds, 0 ≤ d.toInt ∧ d.toInt ≤ 255) (cap N : Nat) (hc : 2 * cs.length + r.length = 2 * cap) (hcap : cs.length + ds.length ≤ cap) (hcN : cap ≤ N) (hN : N ≤ 10000) :
    Con kn l Z EL0 (⟨"java/lang/AbstractStringBuilder", "putStringAt", "(ILjava/lang/String;)V"⟩ : MethodName) jdk_68_method_73_code 3 none [] ({ frames := 7, cells := 1, slots := 2 * N, locals := 110 } : Room) #[.ref x, .int cs.length.toInt32, .ref y] ((v, ArrC Z .byte (enc16 cs ++ r)) :: (x, ObjC Z "java/lang/StringBuilder" shSB [.ref v, .int (1 : Int32), .int (cs).length.toInt32, .int 0]) :: O) P (fun v0 O' P' => ∃ v' r', v0 = none ∧ O' = (v', ArrC Z .byte (enc16 (cs ++ ds) ++ r')) :: (x, ObjC Z "java/lang/StringBuilder" shSB [.ref v', .int (1 : Int32), .int cs.length.toInt32, .int 0]) :: O ∧ P = P' ∧ 2 * (cs.length + ds.length) + r'.length = 2 * cap) := by
  obtain ⟨hw, hs0, hEL, hS, ⟨cs0, hC0, hcs0⟩, ⟨fv, hFv, hfv⟩, hAD, hHI, hLO, hmore⟩ := id E0
  refine con_intro (plainFor_of_name pn_8) hEL (fun m => ef_psa m _ _ _) ?_
  intro p e s m below meth c T W hnm
  refine g_aloadN W d28_0 (q := 1) rfl rfl rfl ?_
  refine g_aloadN W d28_1 (q := 2) rfl rfl rfl ?_
  refine g_privUp W (con_inf10 l Z a0 E0 O P x v cs r y b1 hy1) (D := "java/lang/StringBuilder") (own_ex (W.ow (i := 1) rfl) fun _ h => h.1) (argsL := [(.ref y)]) (rest := []) rfl rfl pd_18 rfl (own_w hw 91 rfl) (own_w hw 92 rfl) (own_w hw 93 rfl) (own_w hw 94 rfl) (own_w hw 50 rfl) (own_w hw 95 rfl) (by decide) d28_2 (q := 5) rfl rfl (Nat.le_of_ble_eq_true rfl) (Nat.le_of_ble_eq_true rfl) (Nat.le_of_ble_eq_true rfl) (by dsimp only; omega) ?_
  rintro _ _ _ T ⟨rfl, rfl, rfl⟩ W
  refine g_aloadN W d28_5 (q := 6) rfl rfl rfl ?_
  refine g_aloadN W d28_6 (q := 7) rfl rfl rfl ?_
  refine g_getF W (W.ow (i := 1) rfl) (i := 0) (v := .ref v) rfl rfl (own_w hw 54 rfl) d28_7 (q := 10) rfl fun T W => ?_
  refine g_iloadN W d28_10 (q := 11) rfl rfl ?_
  refine g_aloadN W d28_11 (q := 12) rfl rfl rfl ?_
  refine g_getF W (W.ow (i := 1) rfl) (i := 1) (v := .int (1 : Int32)) rfl rfl (own_w hw 56 rfl) d28_12 (q := 15) rfl fun T W => ?_
  refine g_virtual W (con_gby10 l Z a0 E0 _ P v cs r y b1 ds hy1 hb1 hlat cap hc hcap (by omega)) (own_ex (W.rd hy1) fun _ h => h.1) (argsL := [(.ref v), (.int cs.length.toInt32), (.int (1 : Int32))]) (rest := []) rfl rfl pd_19 rfl (own_w hw 97 rfl) (own_w hw 98 rfl) (own_w hw 100 rfl) (own_w hw 99 rfl) (own_w hw 3 rfl) (own_w hw 101 rfl) (by decide) d28_15 (q := 18) rfl rfl (Nat.le_of_ble_eq_true rfl) (Nat.le_of_ble_eq_true rfl) (Nat.le_of_ble_eq_true rfl) (by dsimp only; omega) ?_
  rintro _ _ _ T ⟨rfl, rfl, rfl⟩ W
  exact g_retV W rfl d28_18 (Nat.le_of_ble_eq_true rfl) (by dsimp only; omega) ⟨v, r.drop (2 * ds.length), rfl, rfl, rfl, by rw [List.length_drop]; omega⟩
set_option maxRecDepth 65536 in
set_option maxHeartbeats 40000000 in
theorem con_psa11 {kn : Prop} (l : Launch) (Z : State) (a0 : Array Value) (E0 : Env0 Z a0) (O P : List Ent) (x v : Addr) (cs : List Int32) (r : List Value) (y b1 : Addr) (ds : List Int32) (hy1 : (y, ObjC Z "java/lang/String" shStr [.ref b1, .int (1 : Int32)]) ∈ P) (hb1 : (b1, ArrC Z .byte (enc16 ds)) ∈ P) (cap N : Nat) (hc : 2 * cs.length + r.length = 2 * cap) (hcap : cs.length + ds.length ≤ cap) (hcN : cap ≤ N) (hN : N ≤ 10000) :
    Con kn l Z EL0 (⟨"java/lang/AbstractStringBuilder", "putStringAt", "(ILjava/lang/String;)V"⟩ : MethodName) jdk_68_method_73_code 3 none [] ({ frames := 7, cells := 1, slots := 2 * N, locals := 110 } : Room) #[.ref x, .int cs.length.toInt32, .ref y] ((v, ArrC Z .byte (enc16 cs ++ r)) :: (x, ObjC Z "java/lang/StringBuilder" shSB [.ref v, .int (1 : Int32), .int (cs).length.toInt32, .int 0]) :: O) P (fun v0 O' P' => ∃ v' r', v0 = none ∧ O' = (v', ArrC Z .byte (enc16 (cs ++ ds) ++ r')) :: (x, ObjC Z "java/lang/StringBuilder" shSB [.ref v', .int (1 : Int32), .int cs.length.toInt32, .int 0]) :: O ∧ P = P' ∧ 2 * (cs.length + ds.length) + r'.length = 2 * cap) := by
  obtain ⟨hw, hs0, hEL, hS, ⟨cs0, hC0, hcs0⟩, ⟨fv, hFv, hfv⟩, hAD, hHI, hLO, hmore⟩ := id E0
  refine con_intro (plainFor_of_name pn_8) hEL (fun m => ef_psa m _ _ _) ?_
  intro p e s m below meth c T W hnm
  refine g_aloadN W d28_0 (q := 1) rfl rfl rfl ?_
  refine g_aloadN W d28_1 (q := 2) rfl rfl rfl ?_
  refine g_privUp W (con_inf11 l Z a0 E0 O P x v cs r y b1 hy1) (D := "java/lang/StringBuilder") (own_ex (W.ow (i := 1) rfl) fun _ h => h.1) (argsL := [(.ref y)]) (rest := []) rfl rfl pd_18 rfl (own_w hw 91 rfl) (own_w hw 92 rfl) (own_w hw 93 rfl) (own_w hw 94 rfl) (own_w hw 50 rfl) (own_w hw 95 rfl) (by decide) d28_2 (q := 5) rfl rfl (Nat.le_of_ble_eq_true rfl) (Nat.le_of_ble_eq_true rfl) (Nat.le_of_ble_eq_true rfl) (by dsimp only; omega) ?_
  rintro _ _ _ T ⟨rfl, rfl, rfl⟩ W
  refine g_aloadN W d28_5 (q := 6) rfl rfl rfl ?_
  refine g_aloadN W d28_6 (q := 7) rfl rfl rfl ?_
  refine g_getF W (W.ow (i := 1) rfl) (i := 0) (v := .ref v) rfl rfl (own_w hw 54 rfl) d28_7 (q := 10) rfl fun T W => ?_
  refine g_iloadN W d28_10 (q := 11) rfl rfl ?_
  refine g_aloadN W d28_11 (q := 12) rfl rfl rfl ?_
  refine g_getF W (W.ow (i := 1) rfl) (i := 1) (v := .int (1 : Int32)) rfl rfl (own_w hw 56 rfl) d28_12 (q := 15) rfl fun T W => ?_
  refine g_virtual W (con_gby11 l Z a0 E0 _ P v cs r y b1 ds hy1 hb1 cap hc hcap (by omega)) (own_ex (W.rd hy1) fun _ h => h.1) (argsL := [(.ref v), (.int cs.length.toInt32), (.int (1 : Int32))]) (rest := []) rfl rfl pd_19 rfl (own_w hw 97 rfl) (own_w hw 98 rfl) (own_w hw 100 rfl) (own_w hw 99 rfl) (own_w hw 3 rfl) (own_w hw 101 rfl) (by decide) d28_15 (q := 18) rfl rfl (Nat.le_of_ble_eq_true rfl) (Nat.le_of_ble_eq_true rfl) (Nat.le_of_ble_eq_true rfl) (by dsimp only; omega) ?_
  rintro _ _ _ T ⟨rfl, rfl, rfl⟩ W
  exact g_retV W rfl d28_18 (Nat.le_of_ble_eq_true rfl) (by dsimp only; omega) ⟨v, r.drop (2 * ds.length), rfl, rfl, rfl, by rw [List.length_drop]; omega⟩
theorem d29_0 : decode jdk_68_method_22_code 0 = .ok (.aload_n 1, 1) := by decide +kernel
theorem d29_1 : decode jdk_68_method_22_code 1 = .ok (.ifnonnull 8, 3) := by decide +kernel
theorem d29_4 : decode jdk_68_method_22_code 4 = .ok (.aload_n 0, 1) := by decide +kernel
theorem d29_8 : decode jdk_68_method_22_code 8 = .ok (.areturn, 1) := by decide +kernel
theorem d29_9 : decode jdk_68_method_22_code 9 = .ok (.aload_n 1, 1) := by decide +kernel
theorem d29_10 : decode jdk_68_method_22_code 10 = .ok (.invokevirtual 32, 3) := by decide +kernel
theorem d29_13 : decode jdk_68_method_22_code 13 = .ok (.istore_n 2, 1) := by decide +kernel
theorem d29_14 : decode jdk_68_method_22_code 14 = .ok (.aload_n 0, 1) := by decide +kernel
theorem d29_15 : decode jdk_68_method_22_code 15 = .ok (.aload_n 0, 1) := by decide +kernel
theorem d29_16 : decode jdk_68_method_22_code 16 = .ok (.getfield 79, 3) := by decide +kernel
theorem d29_19 : decode jdk_68_method_22_code 19 = .ok (.iload_n 2, 1) := by decide +kernel
theorem d29_20 : decode jdk_68_method_22_code 20 = .ok (.iadd, 1) := by decide +kernel
theorem d29_21 : decode jdk_68_method_22_code 21 = .ok (.invokevirtual 100, 3) := by decide +kernel
theorem d29_24 : decode jdk_68_method_22_code 24 = .ok (.aload_n 0, 1) := by decide +kernel
theorem d29_25 : decode jdk_68_method_22_code 25 = .ok (.aload_n 0, 1) := by decide +kernel
theorem d29_26 : decode jdk_68_method_22_code 26 = .ok (.getfield 79, 3) := by decide +kernel
theorem d29_29 : decode jdk_68_method_22_code 29 = .ok (.aload_n 1, 1) := by decide +kernel
theorem d29_30 : decode jdk_68_method_22_code 30 = .ok (.invokevirtual 208, 3) := by decide +kernel
theorem d29_33 : decode jdk_68_method_22_code 33 = .ok (.aload_n 0, 1) := by decide +kernel
theorem d29_34 : decode jdk_68_method_22_code 34 = .ok (.dup, 1) := by decide +kernel
theorem d29_35 : decode jdk_68_method_22_code 35 = .ok (.getfield 79, 3) := by decide +kernel
theorem d29_38 : decode jdk_68_method_22_code 38 = .ok (.iload_n 2, 1) := by decide +kernel
theorem d29_39 : decode jdk_68_method_22_code 39 = .ok (.iadd, 1) := by decide +kernel
theorem d29_40 : decode jdk_68_method_22_code 40 = .ok (.putfield 79, 3) := by decide +kernel
theorem d29_43 : decode jdk_68_method_22_code 43 = .ok (.aload_n 0, 1) := by decide +kernel
theorem d29_44 : decode jdk_68_method_22_code 44 = .ok (.areturn, 1) := by decide +kernel
theorem ef_aap (m : MethodId) (x : Addr) (y : Addr) : entryFrame m #[(.ref x), (.ref y)] 3 = mkF m 0 #[.val (.ref x), .val (.ref y), .unset] [] := by first | (simp [entryFrame, mkF, argsToLocals, Value.category]; done) | rfl
theorem d30_0 : decode jdk_67_method_7_code 0 = .ok (.aload_n 0, 1) := by decide +kernel
theorem d30_1 : decode jdk_67_method_7_code 1 = .ok (.aload_n 1, 1) := by decide +kernel
theorem d30_2 : decode jdk_67_method_7_code 2 = .ok (.invokespecial 29, 3) := by decide +kernel
theorem d30_5 : decode jdk_67_method_7_code 5 = .ok (.pop, 1) := by decide +kernel
theorem d30_6 : decode jdk_67_method_7_code 6 = .ok (.aload_n 0, 1) := by decide +kernel
theorem d30_7 : decode jdk_67_method_7_code 7 = .ok (.areturn, 1) := by decide +kernel
theorem ef_app (m : MethodId) (x : Addr) (y : Addr) : entryFrame m #[(.ref x), (.ref y)] 2 = mkF m 0 #[.val (.ref x), .val (.ref y)] [] := by first | (simp [entryFrame, mkF, argsToLocals, Value.category]; done) | rfl
theorem pd_20 : parseMethodDescriptor "()I" = some ⟨[], (some .int)⟩ := by decide +kernel
theorem pd_21 : parseMethodDescriptor "(I)V" = some ⟨[.int], none⟩ := by decide +kernel
theorem pd_22 : parseMethodDescriptor "(ILjava/lang/String;)V" = some ⟨[.int, (.object "java/lang/String")], none⟩ := by decide +kernel
set_option maxRecDepth 65536 in
set_option maxHeartbeats 40000000 in
theorem con_aap00 {kn : Prop} (l : Launch) (Z : State) (a0 : Array Value) (E0 : Env0 Z a0) (O P : List Ent) (x v : Addr) (cs : List Int32) (r : List Value) (y b1 : Addr) (ds : List Int32) (hy1 : (y, ObjC Z "java/lang/String" shStr [.ref b1, .int (0 : Int32)]) ∈ P) (hb1 : (b1, ArrC Z .byte (enc ds)) ∈ P) (hlat : ∀ d ∈ ds, 0 ≤ d.toInt ∧ d.toInt ≤ 255) (cl dl cap G N : Nat) (hcl : cs.length = cl) (hdl : ds.length = dl) (hc : cs.length + r.length = cap) (hgr : grow cap (cl + dl) = G) (hG : 2 * G ≤ N) (hN : N ≤ 10000) :
    Con kn l Z EL0 (⟨"java/lang/AbstractStringBuilder", "append", "(Ljava/lang/String;)Ljava/lang/AbstractStringBuilder;"⟩ : MethodName) jdk_68_method_22_code 3 (some (.object "java/lang/AbstractStringBuilder")) [] ({ frames := 8, cells := 2, slots := 3 * N, locals := 130 } : Room) #[.ref x, .ref y] ((v, ArrC Z .byte (enc cs ++ r)) :: (x, ObjC Z "java/lang/StringBuilder" shSB [.ref v, .int (0 : Int32), .int (cs).length.toInt32, .int 0]) :: O) P (fun v0 O' P' => ∃ v' r', v0 = some (.ref x) ∧ O' = ((v', ArrC Z .byte (enc (cs ++ ds) ++ r')) :: (x, ObjC Z "java/lang/StringBuilder" shSB [.ref v', .int (0 : Int32), .int ((cs ++ ds)).length.toInt32, .int 0]) :: O) ∧ P = P' ∧ (cs ++ ds).length = cl + dl ∧ (cs ++ ds).length + r'.length = G) := by
  obtain ⟨hw, hs0, hEL, hS, ⟨cs0, hC0, hcs0⟩, ⟨fv, hFv, hfv⟩, hAD, hHI, hLO, hmore⟩ := id E0
  refine con_intro (plainFor_of_name pn_8) hEL (fun m => ef_aap m _ _) ?_
  intro p e s m below meth c T W hnm
  subst hcl hdl
  have hge : cs.length + ds.length ≤ G := by { rw [← hgr]; unfold grow; split <;> omega }
  refine g_aloadN W d29_0 (q := 1) rfl rfl rfl ?_
  refine g_nonnullY W d29_1 (q := 9) (by decide) (by decide) ?_
  refine g_aloadN W d29_9 (q := 10) rfl rfl rfl ?_
  refine g_virtual W (con_slenX0 l Z a0 E0 _ P y b1 ds hy1 hb1 (by omega)) (own_ex (W.rd hy1) fun _ h => h.1) (argsL := []) (rest := []) rfl rfl pd_20 rfl (own_w hw 69 rfl) (own_w hw 70 rfl) (own_w hw 72 rfl) (own_w hw 71 rfl) (own_w hw 3 rfl) (own_w hw 73 rfl) (by decide) d29_10 (q := 13) rfl rfl (Nat.le_of_ble_eq_true rfl) (Nat.le_of_ble_eq_true rfl) (Nat.le_of_ble_eq_true rfl) (by dsimp only; omega) ?_
  rintro _ _ _ T ⟨rfl, rfl, rfl⟩ W
  refine g_istoreN W d29_13 (q := 14) (L' := #[.val (.ref x), .val (.ref y), .val (.int ds.length.toInt32)]) rfl rfl ?_
  refine g_aloadN W d29_14 (q := 15) rfl rfl rfl ?_
  refine g_aloadN W d29_15 (q := 16) rfl rfl rfl ?_
  refine g_getF W (W.ow (i := 1) rfl) (i := 2) (v := .int cs.length.toInt32) rfl rfl (own_w hw 79 rfl) d29_16 (q := 19) rfl fun T W => ?_
  refine g_iloadN W d29_19 (q := 20) rfl rfl ?_
  refine g_iadd W d29_20 (q := 21) (z := (cs.length + ds.length).toInt32) (own_add (by omega)) rfl ?_
  refine g_privUp W (con_ens0 l Z a0 E0 O P x v cs r cap (cs.length + ds.length) N hc (by omega) (by rw [hgr]; omega) (by omega)) (D := "java/lang/StringBuilder") (own_ex (W.ow (i := 1) rfl) fun _ h => h.1) (argsL := [(.int (cs.length + ds.length).toInt32)]) (rest := []) rfl rfl pd_21 rfl (own_w hw 81 rfl) (own_w hw 82 rfl) (own_w hw 83 rfl) (own_w hw 84 rfl) (own_w hw 50 rfl) (own_w hw 85 rfl) (by decide) d29_21 (q := 24) rfl rfl (Nat.le_of_ble_eq_true rfl) (Nat.le_of_ble_eq_true rfl) (Nat.le_of_ble_eq_true rfl) (by dsimp only; omega) ?_
  rintro _ _ _ T ⟨v1, r1, rfl, rfl, rfl, hg⟩ W
  rw [hgr] at hg
  refine g_aloadN W d29_24 (q := 25) rfl rfl rfl ?_
  refine g_aloadN W d29_25 (q := 26) rfl rfl rfl ?_
  refine g_getF W (W.ow (i := 1) rfl) (i := 2) (v := .int cs.length.toInt32) rfl rfl (own_w hw 79 rfl) d29_26 (q := 29) rfl fun T W => ?_
  refine g_aloadN W d29_29 (q := 30) rfl rfl rfl ?_
  refine g_privUp W (con_psa00 l Z a0 E0 O P x v1 cs r1 y b1 ds hy1 hb1 hlat G N hg hge (by omega) hN) (D := "java/lang/StringBuilder") (own_ex (W.ow (i := 1) rfl) fun _ h => h.1) (argsL := [(.int cs.length.toInt32), (.ref y)]) (rest := []) rfl rfl pd_22 rfl (own_w hw 86 rfl) (own_w hw 87 rfl) (own_w hw 88 rfl) (own_w hw 89 rfl) (own_w hw 50 rfl) (own_w hw 90 rfl) (by decide) d29_30 (q := 33) rfl rfl (Nat.le_of_ble_eq_true rfl) (Nat.le_of_ble_eq_true rfl) (Nat.le_of_ble_eq_true rfl) (by dsimp only; omega) ?_
  rintro _ _ _ T ⟨v', r', rfl, rfl, rfl, hr'⟩ W
  refine g_aloadN W d29_33 (q := 34) rfl rfl rfl ?_
  refine g_dup W d29_34 (q := 35) rfl rfl ?_
  refine g_getF W (W.ow (i := 1) rfl) (i := 2) (v := .int cs.length.toInt32) rfl rfl (own_w hw 79 rfl) d29_35 (q := 38) rfl fun T W => ?_
  refine g_iloadN W d29_38 (q := 39) rfl rfl ?_
  refine g_iadd W d29_39 (q := 40) (z := (cs ++ ds).length.toInt32) (by rw [List.length_append]; exact own_add (by omega)) rfl ?_
  refine g_putF W (i := 1) (j := 2) rfl (shSB_ok hw) shSB_nd rfl rfl (own_w hw 79 rfl) (Or.inl (own_w hw 80 rfl)) (own_w hw 41 rfl) (ty := .int) (by decide) rfl rfl d29_40 (q := 43) rfl (vs' := [.ref v', .int (0 : Int32), .int (cs ++ ds).length.toInt32, .int 0]) rfl (O' := (v', ArrC Z .byte (enc (cs ++ ds) ++ r')) :: (x, ObjC Z "java/lang/StringBuilder" shSB [.ref v', .int (0 : Int32), .int (cs ++ ds).length.toInt32, .int 0]) :: O) rfl fun T W => ?_
  refine g_aloadN W d29_43 (q := 44) rfl rfl rfl ?_
  exact g_retA W rfl rfl rfl d29_44 (Nat.le_of_ble_eq_true rfl) (by dsimp only; omega) ⟨v', r', rfl, rfl, rfl, List.length_append, by rw [List.length_append]; omega⟩
theorem pd_23 : parseMethodDescriptor "(Ljava/lang/String;)Ljava/lang/AbstractStringBuilder;" = some ⟨[(.object "java/lang/String")], (some (.object "java/lang/AbstractStringBuilder"))⟩ := by decide +kernel
theorem pn_9 : plainName "java/lang/StringBuilder" = true := by first | (simp [plainName, overriddenIn]; done) | decide +kernel
set_option maxRecDepth 65536 in
set_option maxHeartbeats 40000000 in
theorem con_app00 {kn : Prop} (l : Launch) (Z : State) (a0 : Array Value) (E0 : Env0 Z a0) (O P : List Ent) (x v : Addr) (cs : List Int32) (r : List Value) (y b1 : Addr) (ds : List Int32) (hy1 : (y, ObjC Z "java/lang/String" shStr [.ref b1, .int (0 : Int32)]) ∈ P) (hb1 : (b1, ArrC Z .byte (enc ds)) ∈ P) (hlat : ∀ d ∈ ds, 0 ≤ d.toInt ∧ d.toInt ≤ 255) (cl dl cap G N : Nat) (hcl : cs.length = cl) (hdl : ds.length = dl) (hc : cs.length + r.length = cap) (hgr : grow cap (cl + dl) = G) (hG : 2 * G ≤ N) (hN : N ≤ 10000) :
    Con kn l Z EL0 (⟨"java/lang/StringBuilder", "append", "(Ljava/lang/String;)Ljava/lang/StringBuilder;"⟩ : MethodName) jdk_67_method_7_code 2 (some (.object "java/lang/StringBuilder")) [] ({ frames := 9, cells := 2, slots := 3 * N, locals := 145 } : Room) #[.ref x, .ref y] ((v, ArrC Z .byte (enc cs ++ r)) :: (x, ObjC Z "java/lang/StringBuilder" shSB [.ref v, .int (0 : Int32), .int (cs).length.toInt32, .int 0]) :: O) P (fun v0 O' P' => ∃ v' r', v0 = some (.ref x) ∧ O' = ((v', ArrC Z .byte (enc (cs ++ ds) ++ r')) :: (x, ObjC Z "java/lang/StringBuilder" shSB [.ref v', .int (0 : Int32), .int ((cs ++ ds)).length.toInt32, .int 0]) :: O) ∧ P = P' ∧ (cs ++ ds).length = cl + dl ∧ (cs ++ ds).length + r'.length = G) := by
  obtain ⟨hw, hs0, hEL, hS, ⟨cs0, hC0, hcs0⟩, ⟨fv, hFv, hfv⟩, hAD, hHI, hLO, hmore⟩ := id E0
  refine con_intro (plainFor_of_name pn_9) hEL (fun m => ef_app m _ _) ?_
  intro p e s m below meth c T W hnm
  refine g_aloadN W d30_0 (q := 1) rfl rfl rfl ?_
  refine g_aloadN W d30_1 (q := 2) rfl rfl rfl ?_
  refine g_super (y' := ⟨"java/lang/AbstractStringBuilder", "ensureCapacityInternal", "(I)V"⟩) W (con_aap00 l Z a0 E0 O P x v cs r y b1 ds hy1 hb1 hlat cl dl cap G N hcl hdl hc hgr hG hN) (D := "java/lang/StringBuilder") (own_ex (W.ow (i := 1) rfl) fun _ h => h.1) (argsL := [(.ref y)]) (rest := []) rfl rfl pd_23 rfl (by decide) (own_w hw 64 rfl) (own_w hw 65 rfl) rfl (own_w hw 84 rfl) (own_w hw 66 rfl) (own_w hw 49 rfl) (own_w hw 50 rfl) (own_w hw 68 rfl) (by decide) d30_2 (q := 5) rfl rfl (Nat.le_of_ble_eq_true rfl) (Nat.le_of_ble_eq_true rfl) (Nat.le_of_ble_eq_true rfl) (by dsimp only; omega) ?_
  rintro _ _ _ T ⟨v', r', rfl, rfl, rfl, h1, h2⟩ W
  refine g_pop W d30_5 (q := 6) rfl rfl ?_
  refine g_aloadN W d30_6 (q := 7) rfl rfl rfl ?_
  exact g_retA W rfl rfl rfl d30_7 (Nat.le_of_ble_eq_true rfl) (by dsimp only; omega) ⟨v', r', rfl, rfl, rfl, h1, h2⟩
set_option maxRecDepth 65536 in
set_option maxHeartbeats 40000000 in
theorem con_aap01 {kn : Prop} (l : Launch) (Z : State) (a0 : Array Value) (E0 : Env0 Z a0) (O P : List Ent) (x v : Addr) (cs : List Int32) (r : List Value) (y b1 : Addr) (ds : List Int32) (hy1 : (y, ObjC Z "java/lang/String" shStr [.ref b1, .int (1 : Int32)]) ∈ P) (hb1 : (b1, ArrC Z .byte (enc16 ds)) ∈ P) (cl dl cap G N : Nat) (hcl : cs.length = cl) (hdl : ds.length = dl) (hc : cs.length + r.length = cap) (hgr : grow cap (cl + dl) = G) (hG : 2 * G ≤ N) (hN : N ≤ 10000) (hlatc : ∀ d ∈ cs, 0 ≤ d.toInt ∧ d.toInt ≤ 255) :
    Con kn l Z EL0 (⟨"java/lang/AbstractStringBuilder", "append", "(Ljava/lang/String;)Ljava/lang/AbstractStringBuilder;"⟩ : MethodName) jdk_68_method_22_code 3 (some (.object "java/lang/AbstractStringBuilder")) [] ({ frames := 8, cells := 2, slots := 3 * N, locals := 130 } : Room) #[.ref x, .ref y] ((v, ArrC Z .byte (enc cs ++ r)) :: (x, ObjC Z "java/lang/StringBuilder" shSB [.ref v, .int (0 : Int32), .int (cs).length.toInt32, .int 0]) :: O) P (fun v0 O' P' => ∃ v' r', v0 = some (.ref x) ∧ O' = ((v', ArrC Z .byte (enc16 (cs ++ ds) ++ r')) :: (x, ObjC Z "java/lang/StringBuilder" shSB [.ref v', .int (1 : Int32), .int ((cs ++ ds)).length.toInt32, .int 0]) :: O) ∧ P = P' ∧ (cs ++ ds).length = cl + dl ∧ 2 * (cs ++ ds).length + r'.length = 2 * G) := by
  obtain ⟨hw, hs0, hEL, hS, ⟨cs0, hC0, hcs0⟩, ⟨fv, hFv, hfv⟩, hAD, hHI, hLO, hmore⟩ := id E0
  refine con_intro (plainFor_of_name pn_8) hEL (fun m => ef_aap m _ _) ?_
  intro p e s m below meth c T W hnm
  subst hcl hdl
  have hge : cs.length + ds.length ≤ G := by { rw [← hgr]; unfold grow; split <;> omega }
  refine g_aloadN W d29_0 (q := 1) rfl rfl rfl ?_
  refine g_nonnullY W d29_1 (q := 9) (by decide) (by decide) ?_
  refine g_aloadN W d29_9 (q := 10) rfl rfl rfl ?_
  refine g_virtual W (con_slenX1 l Z a0 E0 _ P y b1 ds hy1 hb1 (by omega)) (own_ex (W.rd hy1) fun _ h => h.1) (argsL := []) (rest := []) rfl rfl pd_20 rfl (own_w hw 69 rfl) (own_w hw 70 rfl) (own_w hw 72 rfl) (own_w hw 71 rfl) (own_w hw 3 rfl) (own_w hw 73 rfl) (by decide) d29_10 (q := 13) rfl rfl (Nat.le_of_ble_eq_true rfl) (Nat.le_of_ble_eq_true rfl) (Nat.le_of_ble_eq_true rfl) (by dsimp only; omega) ?_
  rintro _ _ _ T ⟨rfl, rfl, rfl⟩ W
  refine g_istoreN W d29_13 (q := 14) (L' := #[.val (.ref x), .val (.ref y), .val (.int ds.length.toInt32)]) rfl rfl ?_
  refine g_aloadN W d29_14 (q := 15) rfl rfl rfl ?_
  refine g_aloadN W d29_15 (q := 16) rfl rfl rfl ?_
  refine g_getF W (W.ow (i := 1) rfl) (i := 2) (v := .int cs.length.toInt32) rfl rfl (own_w hw 79 rfl) d29_16 (q := 19) rfl fun T W => ?_
  refine g_iloadN W d29_19 (q := 20) rfl rfl ?_
  refine g_iadd W d29_20 (q := 21) (z := (cs.length + ds.length).toInt32) (own_add (by omega)) rfl ?_
  refine g_privUp W (con_ens0 l Z a0 E0 O P x v cs r cap (cs.length + ds.length) N hc (by omega) (by rw [hgr]; omega) (by omega)) (D := "java/lang/StringBuilder") (own_ex (W.ow (i := 1) rfl) fun _ h => h.1) (argsL := [(.int (cs.length + ds.length).toInt32)]) (rest := []) rfl rfl pd_21 rfl (own_w hw 81 rfl) (own_w hw 82 rfl) (own_w hw 83 rfl) (own_w hw 84 rfl) (own_w hw 50 rfl) (own_w hw 85 rfl) (by decide) d29_21 (q := 24) rfl rfl (Nat.le_of_ble_eq_true rfl) (Nat.le_of_ble_eq_true rfl) (Nat.le_of_ble_eq_true rfl) (by dsimp only; omega) ?_
  rintro _ _ _ T ⟨v1, r1, rfl, rfl, rfl, hg⟩ W
  rw [hgr] at hg
  refine g_aloadN W d29_24 (q := 25) rfl rfl rfl ?_
  refine g_aloadN W d29_25 (q := 26) rfl rfl rfl ?_
  refine g_getF W (W.ow (i := 1) rfl) (i := 2) (v := .int cs.length.toInt32) rfl rfl (own_w hw 79 rfl) d29_26 (q := 29) rfl fun T W => ?_
  refine g_aloadN W d29_29 (q := 30) rfl rfl rfl ?_
  refine g_privUp W (con_psa01 l Z a0 E0 O P x v1 cs r1 y b1 ds hy1 hb1 G N hg hge (by omega) hN hlatc) (D := "java/lang/StringBuilder") (own_ex (W.ow (i := 1) rfl) fun _ h => h.1) (argsL := [(.int cs.length.toInt32), (.ref y)]) (rest := []) rfl rfl pd_22 rfl (own_w hw 86 rfl) (own_w hw 87 rfl) (own_w hw 88 rfl) (own_w hw 89 rfl) (own_w hw 50 rfl) (own_w hw 90 rfl) (by decide) d29_30 (q := 33) rfl rfl (Nat.le_of_ble_eq_true rfl) (Nat.le_of_ble_eq_true rfl) (Nat.le_of_ble_eq_true rfl) (by dsimp only; omega) ?_
  rintro _ _ _ T ⟨v', r', rfl, rfl, rfl, hr'⟩ W
  refine g_aloadN W d29_33 (q := 34) rfl rfl rfl ?_
  refine g_dup W d29_34 (q := 35) rfl rfl ?_
  refine g_getF W (W.ow (i := 1) rfl) (i := 2) (v := .int cs.length.toInt32) rfl rfl (own_w hw 79 rfl) d29_35 (q := 38) rfl fun T W => ?_
  refine g_iloadN W d29_38 (q := 39) rfl rfl ?_
  refine g_iadd W d29_39 (q := 40) (z := (cs ++ ds).length.toInt32) (by rw [List.length_append]; exact own_add (by omega)) rfl ?_
  refine g_putF W (i := 1) (j := 2) rfl (shSB_ok hw) shSB_nd rfl rfl (own_w hw 79 rfl) (Or.inl (own_w hw 80 rfl)) (own_w hw 41 rfl) (ty := .int) (by decide) rfl rfl d29_40 (q := 43) rfl (vs' := [.ref v', .int (1 : Int32), .int (cs ++ ds).length.toInt32, .int 0]) rfl (O' := (v', ArrC Z .byte (enc16 (cs ++ ds) ++ r')) :: (x, ObjC Z "java/lang/StringBuilder" shSB [.ref v', .int (1 : Int32), .int (cs ++ ds).length.toInt32, .int 0]) :: O) rfl fun T W => ?_
  refine g_aloadN W d29_43 (q := 44) rfl rfl rfl ?_
  exact g_retA W rfl rfl rfl d29_44 (Nat.le_of_ble_eq_true rfl) (by dsimp only; omega) ⟨v', r', rfl, rfl, rfl, List.length_append, by rw [List.length_append]; omega⟩
set_option maxRecDepth 65536 in
set_option maxHeartbeats 40000000 in
theorem con_app01 {kn : Prop} (l : Launch) (Z : State) (a0 : Array Value) (E0 : Env0 Z a0) (O P : List Ent) (x v : Addr) (cs : List Int32) (r : List Value) (y b1 : Addr) (ds : List Int32) (hy1 : (y, ObjC Z "java/lang/String" shStr [.ref b1, .int (1 : Int32)]) ∈ P) (hb1 : (b1, ArrC Z .byte (enc16 ds)) ∈ P) (cl dl cap G N : Nat) (hcl : cs.length = cl) (hdl : ds.length = dl) (hc : cs.length + r.length = cap) (hgr : grow cap (cl + dl) = G) (hG : 2 * G ≤ N) (hN : N ≤ 10000) (hlatc : ∀ d ∈ cs, 0 ≤ d.toInt ∧ d.toInt ≤ 255) :
    Con kn l Z EL0 (⟨"java/lang/StringBuilder", "append", "(Ljava/lang/String;)Ljava/lang/StringBuilder;"⟩ : MethodName) jdk_67_method_7_code 2 (some (.object "java/lang/StringBuilder")) [] ({ frames := 9, cells := 2, slots := 3 * N, locals := 145 } : Room) #[.ref x, .ref y] ((v, ArrC Z .byte (enc cs ++ r)) :: (x, ObjC Z "java/lang/StringBuilder" shSB [.ref v, .int (0 : Int32), .int (cs).length.toInt32, .int 0]) :: O) P (fun v0 O' P' => ∃ v' r', v0 = some (.ref x) ∧ O' = ((v', ArrC Z .byte (enc16 (cs ++ ds) ++ r')) :: (x, ObjC Z "java/lang/StringBuilder" shSB [.ref v', .int (1 : Int32), .int ((cs ++ ds)).length.toInt32, .int 0]) :: O) ∧ P = P' ∧ (cs ++ ds).length = cl + dl ∧ 2 * (cs ++ ds).length + r'.length = 2 * G) := by
  obtain ⟨hw, hs0, hEL, hS, ⟨cs0, hC0, hcs0⟩, ⟨fv, hFv, hfv⟩, hAD, hHI, hLO, hmore⟩ := id E0
  refine con_intro (plainFor_of_name pn_9) hEL (fun m => ef_app m _ _) ?_
  intro p e s m below meth c T W hnm
  refine g_aloadN W d30_0 (q := 1) rfl rfl rfl ?_
  refine g_aloadN W d30_1 (q := 2) rfl rfl rfl ?_
  refine g_super (y' := ⟨"java/lang/AbstractStringBuilder", "ensureCapacityInternal", "(I)V"⟩) W (con_aap01 l Z a0 E0 O P x v cs r y b1 ds hy1 hb1 cl dl cap G N hcl hdl hc hgr hG hN hlatc) (D := "java/lang/StringBuilder") (own_ex (W.ow (i := 1) rfl) fun _ h => h.1) (argsL := [(.ref y)]) (rest := []) rfl rfl pd_23 rfl (by decide) (own_w hw 64 rfl) (own_w hw 65 rfl) rfl (own_w hw 84 rfl) (own_w hw 66 rfl) (own_w hw 49 rfl) (own_w hw 50 rfl) (own_w hw 68 rfl) (by decide) d30_2 (q := 5) rfl rfl (Nat.le_of_ble_eq_true rfl) (Nat.le_of_ble_eq_true rfl) (Nat.le_of_ble_eq_true rfl) (by dsimp only; omega) ?_
  rintro _ _ _ T ⟨v', r', rfl, rfl, rfl, h1, h2⟩ W
  refine g_pop W d30_5 (q := 6) rfl rfl ?_
  refine g_aloadN W d30_6 (q := 7) rfl rfl rfl ?_
  exact g_retA W rfl rfl rfl d30_7 (Nat.le_of_ble_eq_true rfl) (by dsimp only; omega) ⟨v', r', rfl, rfl, rfl, h1, h2⟩
set_option maxRecDepth 65536 in
set_option maxHeartbeats 40000000 in
theorem con_aap10 {kn : Prop} (l : Launch) (Z : State) (a0 : Array Value) (E0 : Env0 Z a0) (O P : List Ent) (x v : Addr) (cs : List Int32) (r : List Value) (y b1 : Addr) (ds : List Int32) (hy1 : (y, ObjC Z "java/lang/String" shStr [.ref b1, .int (0 : Int32)]) ∈ P) (hb1 : (b1, ArrC Z .byte (enc ds)) ∈ P) (hlat : ∀ d ∈ ds, 0 ≤ d.toInt ∧ d.toInt ≤ 255) (cl dl cap G N : Nat) (hcl : cs.length = cl) (hdl : ds.length = dl) (hc : 2 * cs.length + r.length = 2 * cap) (hgr : grow cap (cl + dl) = G) (hG : 2 * G ≤ N) (hN : N ≤ 10000) :
    Con kn l Z EL0 (⟨"java/lang/AbstractStringBuilder", "append", "(Ljava/lang/String;)Ljava/lang/AbstractStringBuilder;"⟩ : MethodName) jdk_68_method_22_code 3 (some (.object "java/lang/AbstractStringBuilder")) [] ({ frames := 8, cells := 2, slots := 3 * N, locals := 130 } : Room) #[.ref x, .ref y] ((v, ArrC Z .byte (enc16 cs ++ r)) :: (x, ObjC Z "java/lang/StringBuilder" shSB [.ref v, .int (1 : Int32), .int (cs).length.toInt32, .int 0]) :: O) P (fun v0 O' P' => ∃ v' r', v0 = some (.ref x) ∧ O' = ((v', ArrC Z .byte (enc16 (cs ++ ds) ++ r')) :: (x, ObjC Z "java/lang/StringBuilder" shSB [.ref v', .int (1 : Int32), .int ((cs ++ ds)).length.toInt32, .int 0]) :: O) ∧ P = P' ∧ (cs ++ ds).length = cl + dl ∧ 2 * (cs ++ ds).length + r'.length = 2 * G) := by
  obtain ⟨hw, hs0, hEL, hS, ⟨cs0, hC0, hcs0⟩, ⟨fv, hFv, hfv⟩, hAD, hHI, hLO, hmore⟩ := id E0
  refine con_intro (plainFor_of_name pn_8) hEL (fun m => ef_aap m _ _) ?_
  intro p e s m below meth c T W hnm
  subst hcl hdl
  have hge : cs.length + ds.length ≤ G := by { rw [← hgr]; unfold grow; split <;> omega }
  refine g_aloadN W d29_0 (q := 1) rfl rfl rfl ?_
  refine g_nonnullY W d29_1 (q := 9) (by decide) (by decide) ?_
  refine g_aloadN W d29_9 (q := 10) rfl rfl rfl ?_
  refine g_virtual W (con_slenX0 l Z a0 E0 _ P y b1 ds hy1 hb1 (by omega)) (own_ex (W.rd hy1) fun _ h => h.1) (argsL := []) (rest := []) rfl rfl pd_20 rfl (own_w hw 69 rfl) (own_w hw 70 rfl) (own_w hw 72 rfl) (own_w hw 71 rfl) (own_w hw 3 rfl) (own_w hw 73 rfl) (by decide) d29_10 (q := 13) rfl rfl (Nat.le_of_ble_eq_true rfl) (Nat.le_of_ble_eq_true rfl) (Nat.le_of_ble_eq_true rfl) (by dsimp only; omega) ?_
  rintro _ _ _ T ⟨rfl, rfl, rfl⟩ W
  refine g_istoreN W d29_13 (q := 14) (L' := #[.val (.ref x), .val (.ref y), .val (.int ds.length.toInt32)]) rfl rfl ?_
  refine g_aloadN W d29_14 (q := 15) rfl rfl rfl ?_
  refine g_aloadN W d29_15 (q := 16) rfl rfl rfl ?_
  refine g_getF W (W.ow (i := 1) rfl) (i := 2) (v := .int cs.length.toInt32) rfl rfl (own_w hw 79 rfl) d29_16 (q := 19) rfl fun T W => ?_
  refine g_iloadN W d29_19 (q := 20) rfl rfl ?_
  refine g_iadd W d29_20 (q := 21) (z := (cs.length + ds.length).toInt32) (own_add (by omega)) rfl ?_
  refine g_privUp W (con_ens1 l Z a0 E0 O P x v cs r cap (cs.length + ds.length) N hc (by omega) (by rw [hgr]; omega) (by omega)) (D := "java/lang/StringBuilder") (own_ex (W.ow (i := 1) rfl) fun _ h => h.1) (argsL := [(.int (cs.length + ds.length).toInt32)]) (rest := []) rfl rfl pd_21 rfl (own_w hw 81 rfl) (own_w hw 82 rfl) (own_w hw 83 rfl) (own_w hw 84 rfl) (own_w hw 50 rfl) (own_w hw 85 rfl) (by decide) d29_21 (q := 24) rfl rfl (Nat.le_of_ble_eq_true rfl) (Nat.le_of_ble_eq_true rfl) (Nat.le_of_ble_eq_true rfl) (by dsimp only; omega) ?_
  rintro _ _ _ T ⟨v1, r1, rfl, rfl, rfl, hg⟩ W
  rw [hgr] at hg
  refine g_aloadN W d29_24 (q := 25) rfl rfl rfl ?_
  refine g_aloadN W d29_25 (q := 26) rfl rfl rfl ?_
  refine g_getF W (W.ow (i := 1) rfl) (i := 2) (v := .int cs.length.toInt32) rfl rfl (own_w hw 79 rfl) d29_26 (q := 29) rfl fun T W => ?_
  refine g_aloadN W d29_29 (q := 30) rfl rfl rfl ?_
  refine g_privUp W (con_psa10 l Z a0 E0 O P x v1 cs r1 y b1 ds hy1 hb1 hlat G N hg hge (by omega) hN) (D := "java/lang/StringBuilder") (own_ex (W.ow (i := 1) rfl) fun _ h => h.1) (argsL := [(.int cs.length.toInt32), (.ref y)]) (rest := []) rfl rfl pd_22 rfl (own_w hw 86 rfl) (own_w hw 87 rfl) (own_w hw 88 rfl) (own_w hw 89 rfl) (own_w hw 50 rfl) (own_w hw 90 rfl) (by decide) d29_30 (q := 33) rfl rfl (Nat.le_of_ble_eq_true rfl) (Nat.le_of_ble_eq_true rfl) (Nat.le_of_ble_eq_true rfl) (by dsimp only; omega) ?_
  rintro _ _ _ T ⟨v', r', rfl, rfl, rfl, hr'⟩ W
  refine g_aloadN W d29_33 (q := 34) rfl rfl rfl ?_
  refine g_dup W d29_34 (q := 35) rfl rfl ?_
  refine g_getF W (W.ow (i := 1) rfl) (i := 2) (v := .int cs.length.toInt32) rfl rfl (own_w hw 79 rfl) d29_35 (q := 38) rfl fun T W => ?_
  refine g_iloadN W d29_38 (q := 39) rfl rfl ?_
  refine g_iadd W d29_39 (q := 40) (z := (cs ++ ds).length.toInt32) (by rw [List.length_append]; exact own_add (by omega)) rfl ?_
  refine g_putF W (i := 1) (j := 2) rfl (shSB_ok hw) shSB_nd rfl rfl (own_w hw 79 rfl) (Or.inl (own_w hw 80 rfl)) (own_w hw 41 rfl) (ty := .int) (by decide) rfl rfl d29_40 (q := 43) rfl (vs' := [.ref v', .int (1 : Int32), .int (cs ++ ds).length.toInt32, .int 0]) rfl (O' := (v', ArrC Z .byte (enc16 (cs ++ ds) ++ r')) :: (x, ObjC Z "java/lang/StringBuilder" shSB [.ref v', .int (1 : Int32), .int (cs ++ ds).length.toInt32, .int 0]) :: O) rfl fun T W => ?_
  refine g_aloadN W d29_43 (q := 44) rfl rfl rfl ?_
  exact g_retA W rfl rfl rfl d29_44 (Nat.le_of_ble_eq_true rfl) (by dsimp only; omega) ⟨v', r', rfl, rfl, rfl, List.length_append, by rw [List.length_append]; omega⟩
set_option maxRecDepth 65536 in
set_option maxHeartbeats 40000000 in
theorem con_app10 {kn : Prop} (l : Launch) (Z : State) (a0 : Array Value) (E0 : Env0 Z a0) (O P : List Ent) (x v : Addr) (cs : List Int32) (r : List Value) (y b1 : Addr) (ds : List Int32) (hy1 : (y, ObjC Z "java/lang/String" shStr [.ref b1, .int (0 : Int32)]) ∈ P) (hb1 : (b1, ArrC Z .byte (enc ds)) ∈ P) (hlat : ∀ d ∈ ds, 0 ≤ d.toInt ∧ d.toInt ≤ 255) (cl dl cap G N : Nat) (hcl : cs.length = cl) (hdl : ds.length = dl) (hc : 2 * cs.length + r.length = 2 * cap) (hgr : grow cap (cl + dl) = G) (hG : 2 * G ≤ N) (hN : N ≤ 10000) :
    Con kn l Z EL0 (⟨"java/lang/StringBuilder", "append", "(Ljava/lang/String;)Ljava/lang/StringBuilder;"⟩ : MethodName) jdk_67_method_7_code 2 (some (.object "java/lang/StringBuilder")) [] ({ frames := 9, cells := 2, slots := 3 * N, locals := 145 } : Room) #[.ref x, .ref y] ((v, ArrC Z .byte (enc16 cs ++ r)) :: (x, ObjC Z "java/lang/StringBuilder" shSB [.ref v, .int (1 : Int32), .int (cs).length.toInt32, .int 0]) :: O) P (fun v0 O' P' => ∃ v' r', v0 = some (.ref x) ∧ O' = ((v', ArrC Z .byte (enc16 (cs ++ ds) ++ r')) :: (x, ObjC Z "java/lang/StringBuilder" shSB [.ref v', .int (1 : Int32), .int ((cs ++ ds)).length.toInt32, .int 0]) :: O) ∧ P = P' ∧ (cs ++ ds).length = cl + dl ∧ 2 * (cs ++ ds).length + r'.length = 2 * G) := by
  obtain ⟨hw, hs0, hEL, hS, ⟨cs0, hC0, hcs0⟩, ⟨fv, hFv, hfv⟩, hAD, hHI, hLO, hmore⟩ := id E0
  refine con_intro (plainFor_of_name pn_9) hEL (fun m => ef_app m _ _) ?_
  intro p e s m below meth c T W hnm
  refine g_aloadN W d30_0 (q := 1) rfl rfl rfl ?_
  refine g_aloadN W d30_1 (q := 2) rfl rfl rfl ?_
  refine g_super (y' := ⟨"java/lang/AbstractStringBuilder", "ensureCapacityInternal", "(I)V"⟩) W (con_aap10 l Z a0 E0 O P x v cs r y b1 ds hy1 hb1 hlat cl dl cap G N hcl hdl hc hgr hG hN) (D := "java/lang/StringBuilder") (own_ex (W.ow (i := 1) rfl) fun _ h => h.1) (argsL := [(.ref y)]) (rest := []) rfl rfl pd_23 rfl (by decide) (own_w hw 64 rfl) (own_w hw 65 rfl) rfl (own_w hw 84 rfl) (own_w hw 66 rfl) (own_w hw 49 rfl) (own_w hw 50 rfl) (own_w hw 68 rfl) (by decide) d30_2 (q := 5) rfl rfl (Nat.le_of_ble_eq_true rfl) (Nat.le_of_ble_eq_true rfl) (Nat.le_of_ble_eq_true rfl) (by dsimp only; omega) ?_
  rintro _ _ _ T ⟨v', r', rfl, rfl, rfl, h1, h2⟩ W
  refine g_pop W d30_5 (q := 6) rfl rfl ?_
  refine g_aloadN W d30_6 (q := 7) rfl rfl rfl ?_
  exact g_retA W rfl rfl rfl d30_7 (Nat.le_of_ble_eq_true rfl) (by dsimp only; omega) ⟨v', r', rfl, rfl, rfl, h1, h2⟩
set_option maxRecDepth 65536 in
set_option maxHeartbeats 40000000 in
theorem con_aap11 {kn : Prop} (l : Launch) (Z : State) (a0 : Array Value) (E0 : Env0 Z a0) (O P : List Ent) (x v : Addr) (cs : List Int32) (r : List Value) (y b1 : Addr) (ds : List Int32) (hy1 : (y, ObjC Z "java/lang/String" shStr [.ref b1, .int (1 : Int32)]) ∈ P) (hb1 : (b1, ArrC Z .byte (enc16 ds)) ∈ P) (cl dl cap G N : Nat) (hcl : cs.length = cl) (hdl : ds.length = dl) (hc : 2 * cs.length + r.length = 2 * cap) (hgr : grow cap (cl + dl) = G) (hG : 2 * G ≤ N) (hN : N ≤ 10000) :
    Con kn l Z EL0 (⟨"java/lang/AbstractStringBuilder", "append", "(Ljava/lang/String;)Ljava/lang/AbstractStringBuilder;"⟩ : MethodName) jdk_68_method_22_code 3 (some (.object "java/lang/AbstractStringBuilder")) [] ({ frames := 8, cells := 2, slots := 3 * N, locals := 130 } : Room) #[.ref x, .ref y] ((v, ArrC Z .byte (enc16 cs ++ r)) :: (x, ObjC Z "java/lang/StringBuilder" shSB [.ref v, .int (1 : Int32), .int (cs).length.toInt32, .int 0]) :: O) P (fun v0 O' P' => ∃ v' r', v0 = some (.ref x) ∧ O' = ((v', ArrC Z .byte (enc16 (cs ++ ds) ++ r')) :: (x, ObjC Z "java/lang/StringBuilder" shSB [.ref v', .int (1 : Int32), .int ((cs ++ ds)).length.toInt32, .int 0]) :: O) ∧ P = P' ∧ (cs ++ ds).length = cl + dl ∧ 2 * (cs ++ ds).length + r'.length = 2 * G) := by
  obtain ⟨hw, hs0, hEL, hS, ⟨cs0, hC0, hcs0⟩, ⟨fv, hFv, hfv⟩, hAD, hHI, hLO, hmore⟩ := id E0
  refine con_intro (plainFor_of_name pn_8) hEL (fun m => ef_aap m _ _) ?_
  intro p e s m below meth c T W hnm
  subst hcl hdl
  have hge : cs.length + ds.length ≤ G := by { rw [← hgr]; unfold grow; split <;> omega }
  refine g_aloadN W d29_0 (q := 1) rfl rfl rfl ?_
  refine g_nonnullY W d29_1 (q := 9) (by decide) (by decide) ?_
  refine g_aloadN W d29_9 (q := 10) rfl rfl rfl ?_
  refine g_virtual W (con_slenX1 l Z a0 E0 _ P y b1 ds hy1 hb1 (by omega)) (own_ex (W.rd hy1) fun _ h => h.1) (argsL := []) (rest := []) rfl rfl pd_20 rfl (own_w hw 69 rfl) (own_w hw 70 rfl) (own_w hw 72 rfl) (own_w hw 71 rfl) (own_w hw 3 rfl) (own_w hw 73 rfl) (by decide) d29_10 (q := 13) rfl rfl (Nat.le_of_ble_eq_true rfl) (Nat.le_of_ble_eq_true rfl) (Nat.le_of_ble_eq_true rfl) (by dsimp only; omega) ?_
  rintro _ _ _ T ⟨rfl, rfl, rfl⟩ W
  refine g_istoreN W d29_13 (q := 14) (L' := #[.val (.ref x), .val (.ref y), .val (.int ds.length.toInt32)]) rfl rfl ?_
  refine g_aloadN W d29_14 (q := 15) rfl rfl rfl ?_
  refine g_aloadN W d29_15 (q := 16) rfl rfl rfl ?_
  refine g_getF W (W.ow (i := 1) rfl) (i := 2) (v := .int cs.length.toInt32) rfl rfl (own_w hw 79 rfl) d29_16 (q := 19) rfl fun T W => ?_
  refine g_iloadN W d29_19 (q := 20) rfl rfl ?_
  refine g_iadd W d29_20 (q := 21) (z := (cs.length + ds.length).toInt32) (own_add (by omega)) rfl ?_
  refine g_privUp W (con_ens1 l Z a0 E0 O P x v cs r cap (cs.length + ds.length) N hc (by omega) (by rw [hgr]; omega) (by omega)) (D := "java/lang/StringBuilder") (own_ex (W.ow (i := 1) rfl) fun _ h => h.1) (argsL := [(.int (cs.length + ds.length).toInt32)]) (rest := []) rfl rfl pd_21 rfl (own_w hw 81 rfl) (own_w hw 82 rfl) (own_w hw 83 rfl) (own_w hw 84 rfl) (own_w hw 50 rfl) (own_w hw 85 rfl) (by decide) d29_21 (q := 24) rfl rfl (Nat.le_of_ble_eq_true rfl) (Nat.le_of_ble_eq_true rfl) (Nat.le_of_ble_eq_true rfl) (by dsimp only; omega) ?_
  rintro _ _ _ T ⟨v1, r1, rfl, rfl, rfl, hg⟩ W
  rw [hgr] at hg
  refine g_aloadN W d29_24 (q := 25) rfl rfl rfl ?_
  refine g_aloadN W d29_25 (q := 26) rfl rfl rfl ?_
  refine g_getF W (W.ow (i := 1) rfl) (i := 2) (v := .int cs.length.toInt32) rfl rfl (own_w hw 79 rfl) d29_26 (q := 29) rfl fun T W => ?_
  refine g_aloadN W d29_29 (q := 30) rfl rfl rfl ?_
  refine g_privUp W (con_psa11 l Z a0 E0 O P x v1 cs r1 y b1 ds hy1 hb1 G N hg hge (by omega) hN) (D := "java/lang/StringBuilder") (own_ex (W.ow (i := 1) rfl) fun _ h => h.1) (argsL := [(.int cs.length.toInt32), (.ref y)]) (rest := []) rfl rfl pd_22 rfl (own_w hw 86 rfl) (own_w hw 87 rfl) (own_w hw 88 rfl) (own_w hw 89 rfl) (own_w hw 50 rfl) (own_w hw 90 rfl) (by decide) d29_30 (q := 33) rfl rfl (Nat.le_of_ble_eq_true rfl) (Nat.le_of_ble_eq_true rfl) (Nat.le_of_ble_eq_true rfl) (by dsimp only; omega) ?_
  rintro _ _ _ T ⟨v', r', rfl, rfl, rfl, hr'⟩ W
  refine g_aloadN W d29_33 (q := 34) rfl rfl rfl ?_
  refine g_dup W d29_34 (q := 35) rfl rfl ?_
  refine g_getF W (W.ow (i := 1) rfl) (i := 2) (v := .int cs.length.toInt32) rfl rfl (own_w hw 79 rfl) d29_35 (q := 38) rfl fun T W => ?_
  refine g_iloadN W d29_38 (q := 39) rfl rfl ?_
  refine g_iadd W d29_39 (q := 40) (z := (cs ++ ds).length.toInt32) (by rw [List.length_append]; exact own_add (by omega)) rfl ?_
  refine g_putF W (i := 1) (j := 2) rfl (shSB_ok hw) shSB_nd rfl rfl (own_w hw 79 rfl) (Or.inl (own_w hw 80 rfl)) (own_w hw 41 rfl) (ty := .int) (by decide) rfl rfl d29_40 (q := 43) rfl (vs' := [.ref v', .int (1 : Int32), .int (cs ++ ds).length.toInt32, .int 0]) rfl (O' := (v', ArrC Z .byte (enc16 (cs ++ ds) ++ r')) :: (x, ObjC Z "java/lang/StringBuilder" shSB [.ref v', .int (1 : Int32), .int (cs ++ ds).length.toInt32, .int 0]) :: O) rfl fun T W => ?_
  refine g_aloadN W d29_43 (q := 44) rfl rfl rfl ?_
  exact g_retA W rfl rfl rfl d29_44 (Nat.le_of_ble_eq_true rfl) (by dsimp only; omega) ⟨v', r', rfl, rfl, rfl, List.length_append, by rw [List.length_append]; omega⟩
set_option maxRecDepth 65536 in
set_option maxHeartbeats 40000000 in
theorem con_app11 {kn : Prop} (l : Launch) (Z : State) (a0 : Array Value) (E0 : Env0 Z a0) (O P : List Ent) (x v : Addr) (cs : List Int32) (r : List Value) (y b1 : Addr) (ds : List Int32) (hy1 : (y, ObjC Z "java/lang/String" shStr [.ref b1, .int (1 : Int32)]) ∈ P) (hb1 : (b1, ArrC Z .byte (enc16 ds)) ∈ P) (cl dl cap G N : Nat) (hcl : cs.length = cl) (hdl : ds.length = dl) (hc : 2 * cs.length + r.length = 2 * cap) (hgr : grow cap (cl + dl) = G) (hG : 2 * G ≤ N) (hN : N ≤ 10000) :
    Con kn l Z EL0 (⟨"java/lang/StringBuilder", "append", "(Ljava/lang/String;)Ljava/lang/StringBuilder;"⟩ : MethodName) jdk_67_method_7_code 2 (some (.object "java/lang/StringBuilder")) [] ({ frames := 9, cells := 2, slots := 3 * N, locals := 145 } : Room) #[.ref x, .ref y] ((v, ArrC Z .byte (enc16 cs ++ r)) :: (x, ObjC Z "java/lang/StringBuilder" shSB [.ref v, .int (1 : Int32), .int (cs).length.toInt32, .int 0]) :: O) P (fun v0 O' P' => ∃ v' r', v0 = some (.ref x) ∧ O' = ((v', ArrC Z .byte (enc16 (cs ++ ds) ++ r')) :: (x, ObjC Z "java/lang/StringBuilder" shSB [.ref v', .int (1 : Int32), .int ((cs ++ ds)).length.toInt32, .int 0]) :: O) ∧ P = P' ∧ (cs ++ ds).length = cl + dl ∧ 2 * (cs ++ ds).length + r'.length = 2 * G) := by
  obtain ⟨hw, hs0, hEL, hS, ⟨cs0, hC0, hcs0⟩, ⟨fv, hFv, hfv⟩, hAD, hHI, hLO, hmore⟩ := id E0
  refine con_intro (plainFor_of_name pn_9) hEL (fun m => ef_app m _ _) ?_
  intro p e s m below meth c T W hnm
  refine g_aloadN W d30_0 (q := 1) rfl rfl rfl ?_
  refine g_aloadN W d30_1 (q := 2) rfl rfl rfl ?_
  refine g_super (y' := ⟨"java/lang/AbstractStringBuilder", "ensureCapacityInternal", "(I)V"⟩) W (con_aap11 l Z a0 E0 O P x v cs r y b1 ds hy1 hb1 cl dl cap G N hcl hdl hc hgr hG hN) (D := "java/lang/StringBuilder") (own_ex (W.ow (i := 1) rfl) fun _ h => h.1) (argsL := [(.ref y)]) (rest := []) rfl rfl pd_23 rfl (by decide) (own_w hw 64 rfl) (own_w hw 65 rfl) rfl (own_w hw 84 rfl) (own_w hw 66 rfl) (own_w hw 49 rfl) (own_w hw 50 rfl) (own_w hw 68 rfl) (by decide) d30_2 (q := 5) rfl rfl (Nat.le_of_ble_eq_true rfl) (Nat.le_of_ble_eq_true rfl) (Nat.le_of_ble_eq_true rfl) (by dsimp only; omega) ?_
  rintro _ _ _ T ⟨v', r', rfl, rfl, rfl, h1, h2⟩ W
  refine g_pop W d30_5 (q := 6) rfl rfl ?_
  refine g_aloadN W d30_6 (q := 7) rfl rfl rfl ?_
  exact g_retA W rfl rfl rfl d30_7 (Nat.le_of_ble_eq_true rfl) (by dsimp only; omega) ⟨v', r', rfl, rfl, rfl, h1, h2⟩
theorem d31_0 : decode jdk_68_method_2_code 0 = .ok (.aload_n 0, 1) := by decide +kernel
theorem d31_1 : decode jdk_68_method_2_code 1 = .ok (.invokespecial 3, 3) := by decide +kernel
theorem d31_4 : decode jdk_68_method_2_code 4 = .ok (.getstatic 18, 3) := by decide +kernel
theorem d31_7 : decode jdk_68_method_2_code 7 = .ok (.ifCond .eq 18, 3) := by decide +kernel
theorem d31_10 : decode jdk_68_method_2_code 10 = .ok (.aload_n 0, 1) := by decide +kernel
theorem d31_11 : decode jdk_68_method_2_code 11 = .ok (.iload_n 1, 1) := by decide +kernel
theorem d31_12 : decode jdk_68_method_2_code 12 = .ok (.newarray .byte, 2) := by decide +kernel
theorem d31_14 : decode jdk_68_method_2_code 14 = .ok (.putfield 15, 3) := by decide +kernel
theorem d31_17 : decode jdk_68_method_2_code 17 = .ok (.aload_n 0, 1) := by decide +kernel
theorem d31_18 : decode jdk_68_method_2_code 18 = .ok (.iconst 0, 1) := by decide +kernel
theorem d31_19 : decode jdk_68_method_2_code 19 = .ok (.putfield 22, 3) := by decide +kernel
theorem d31_22 : decode jdk_68_method_2_code 22 = .ok (.goto 16, 3) := by decide +kernel
theorem d31_25 : decode jdk_68_method_2_code 25 = .ok (.aload_n 0, 1) := by decide +kernel
theorem d31_26 : decode jdk_68_method_2_code 26 = .ok (.iload_n 1, 1) := by decide +kernel
theorem d31_27 : decode jdk_68_method_2_code 27 = .ok (.invokestatic 26, 3) := by decide +kernel
theorem d31_30 : decode jdk_68_method_2_code 30 = .ok (.putfield 15, 3) := by decide +kernel
theorem d31_33 : decode jdk_68_method_2_code 33 = .ok (.aload_n 0, 1) := by decide +kernel
theorem d31_34 : decode jdk_68_method_2_code 34 = .ok (.iconst 1, 1) := by decide +kernel
theorem d31_35 : decode jdk_68_method_2_code 35 = .ok (.putfield 22, 3) := by decide +kernel
theorem d31_38 : decode jdk_68_method_2_code 38 = .ok (.return_, 1) := by decide +kernel
theorem ef_asI (m : MethodId) (x : Addr) : entryFrame m #[(.ref x), (.int (16 : Int32))] 2 = mkF m 0 #[.val (.ref x), .val (.int (16 : Int32))] [] := by first | (simp [entryFrame, mkF, argsToLocals, Value.category]; done) | rfl
set_option maxRecDepth 65536 in
set_option maxHeartbeats 40000000 in
theorem con_asI {kn : Prop} (l : Launch) (Z : State) (a0 : Array Value) (E0 : Env0 Z a0) (O P : List Ent) (x : Addr) :
    Con kn l Z EL0 (⟨"java/lang/AbstractStringBuilder", "<init>", "(I)V"⟩ : MethodName) jdk_68_method_2_code 2 none [] ({ frames := 1, cells := 1, slots := 16, locals := 12 } : Room) #[.ref x, .int (16 : Int32)] ((x, ObjC Z "java/lang/StringBuilder" shSB [.null, .int 0, .int 0, .int 0]) :: O) P (fun v0 O' P' => ∃ v, v0 = none ∧ O' = ((v, ArrC Z .byte (enc [] ++ List.replicate 16 (.int 0))) :: (x, ObjC Z "java/lang/StringBuilder" shSB [.ref v, .int (0 : Int32), .int (0 : Int32), .int 0]) :: O) ∧ P = P') := by
  obtain ⟨hw, hs0, hEL, hS, ⟨cs0, hC0, hcs0⟩, ⟨fv, hFv, hfv⟩, hAD, hHI, hLO, hmore⟩ := id E0
  refine con_intro (plainFor_of_name pn_8) hEL (fun m => ef_asI m _) ?_
  intro p e s m below meth c T W hnm
  refine g_aloadN W d31_0 (q := 1) rfl rfl rfl ?_
  refine g_objInit W (own_w hw 52 rfl) (own_w hw 13 rfl) (own_w hw 14 rfl) d31_1 (q := 4) rfl rfl (Nat.le_of_ble_eq_true rfl) (Nat.le_of_ble_eq_true rfl) fun T W => ?_
  refine g_getS W hC0 (own_w hw 53 rfl) d31_4 (q := 7) rfl fun T W => ?_
  refine g_ifN W d31_7 (q := 10) (XT.i0_eq_f hcs0) rfl ?_
  refine g_aloadN W d31_10 (q := 11) rfl rfl rfl ?_
  refine g_iloadN W d31_11 (q := 12) rfl rfl ?_
  refine g_newA W (ty := .byte) (cap := 16) (vs := List.replicate 16 (.int 0)) rfl (own_w hw 20 rfl) (by decide) (Nat.le_of_ble_eq_true rfl) (Nat.le_of_ble_eq_true rfl) rfl rfl d31_12 (q := 14) rfl (Nat.le_of_ble_eq_true rfl) (Nat.le_of_ble_eq_true rfl) fun v T W => ?_
  refine g_putF W (i := 1) (j := 0) rfl (shSB_ok hw) shSB_nd rfl rfl (own_w hw 54 rfl) (Or.inl (own_w hw 55 rfl)) (own_w hw 41 rfl) (ty := (.array .byte)) (by decide) rfl rfl d31_14 (q := 17) rfl (vs' := [.ref v, .int 0, .int 0, .int 0]) rfl (O' := (v, ArrC Z .byte (List.replicate 16 (.int 0))) :: (x, ObjC Z "java/lang/StringBuilder" shSB [.ref v, .int 0, .int 0, .int 0]) :: O) rfl fun T W => ?_
  refine g_aloadN W d31_17 (q := 18) rfl rfl rfl ?_
  refine g_iconst W (v := (0 : Int32)) d31_18 (q := 19) rfl rfl ?_
  refine g_putF W (i := 1) (j := 1) rfl (shSB_ok hw) shSB_nd rfl rfl (own_w hw 56 rfl) (Or.inl (own_w hw 57 rfl)) (own_w hw 41 rfl) (ty := .byte) (by decide) rfl rfl d31_19 (q := 22) rfl (vs' := [.ref v, .int (0 : Int32), .int 0, .int 0]) rfl (O' := (v, ArrC Z .byte (List.replicate 16 (.int 0))) :: (x, ObjC Z "java/lang/StringBuilder" shSB [.ref v, .int (0 : Int32), .int 0, .int 0]) :: O) rfl fun T W => ?_
  refine g_goto W d31_22 (q := 38) (by decide) (by decide) ?_
  exact g_retV W rfl d31_38 (Nat.le_of_ble_eq_true rfl) (Nat.le_of_ble_eq_true rfl) ⟨v, rfl, rfl, rfl⟩
theorem d32_0 : decode jdk_67_method_1_code 0 = .ok (.aload_n 0, 1) := by decide +kernel
theorem d32_1 : decode jdk_67_method_1_code 1 = .ok (.bipush 16, 2) := by decide +kernel
theorem d32_3 : decode jdk_67_method_1_code 3 = .ok (.invokespecial 1, 3) := by decide +kernel
theorem d32_6 : decode jdk_67_method_1_code 6 = .ok (.return_, 1) := by decide +kernel
theorem ef_sb0 (m : MethodId) (x : Addr) : entryFrame m #[(.ref x)] 1 = mkF m 0 #[.val (.ref x)] [] := by first | (simp [entryFrame, mkF, argsToLocals, Value.category]; done) | rfl
set_option maxRecDepth 65536 in
set_option maxHeartbeats 40000000 in
theorem con_sb0 {kn : Prop} (l : Launch) (Z : State) (a0 : Array Value) (E0 : Env0 Z a0) (O P : List Ent) (x : Addr) :
    Con kn l Z EL0 (⟨"java/lang/StringBuilder", "<init>", "()V"⟩ : MethodName) jdk_67_method_1_code 1 none [] ({ frames := 2, cells := 1, slots := 16, locals := 25 } : Room) #[.ref x] ((x, ObjC Z "java/lang/StringBuilder" shSB [.null, .int 0, .int 0, .int 0]) :: O) P (fun v0 O' P' => ∃ v, v0 = none ∧ O' = ((v, ArrC Z .byte (enc [] ++ List.replicate 16 (.int 0))) :: (x, ObjC Z "java/lang/StringBuilder" shSB [.ref v, .int (0 : Int32), .int (0 : Int32), .int 0]) :: O) ∧ P = P') := by
  obtain ⟨hw, hs0, hEL, hS, ⟨cs0, hC0, hcs0⟩, ⟨fv, hFv, hfv⟩, hAD, hHI, hLO, hmore⟩ := id E0
  refine con_intro (plainFor_of_name pn_9) hEL (fun m => ef_sb0 m _) ?_
  intro p e s m below meth c T W hnm
  refine g_aloadN W d32_0 (q := 1) rfl rfl rfl ?_
  refine g_bipush W (v := (16 : Int32)) d32_1 (q := 3) rfl rfl ?_
  refine g_special W (con_asI l Z a0 E0 O P x) (argsL := [(.int (16 : Int32))]) (rest := []) rfl rfl rfl pd_21 rfl (own_w hw 46 rfl) (own_w hw 47 rfl) (own_w hw 50 rfl) (own_w hw 51 rfl) (by decide) d32_3 (q := 6) rfl rfl (Nat.le_of_ble_eq_true rfl) (Nat.le_of_ble_eq_true rfl) (Nat.le_of_ble_eq_true rfl) (Nat.le_of_ble_eq_true rfl) ?_
  rintro _ _ _ T ⟨v, rfl, rfl, rfl⟩ W
  exact g_retV W rfl d32_6 (Nat.le_of_ble_eq_true rfl) (Nat.le_of_ble_eq_true rfl) ⟨v, rfl, rfl, rfl⟩
theorem d33_0 : decode jdk_65_method_131_code 0 = .ok (.iload_n 1, 1) := by decide +kernel
theorem d33_1 : decode jdk_65_method_131_code 1 = .ok (.iload_n 0, 1) := by decide +kernel
theorem d33_2 : decode jdk_65_method_131_code 2 = .ok (.if_icmp .ge 35, 3) := by decide +kernel
theorem d33_8 : decode jdk_65_method_131_code 8 = .ok (.dup, 1) := by decide +kernel
theorem d33_12 : decode jdk_65_method_131_code 12 = .ok (.dup, 1) := by decide +kernel
theorem d33_16 : decode jdk_65_method_131_code 16 = .ok (.iload_n 0, 1) := by decide +kernel
theorem d33_26 : decode jdk_65_method_131_code 26 = .ok (.iload_n 1, 1) := by decide +kernel
theorem d33_36 : decode jdk_65_method_131_code 36 = .ok (.athrow, 1) := by decide +kernel
theorem d33_37 : decode jdk_65_method_131_code 37 = .ok (.return_, 1) := by decide +kernel
theorem ef_ckl (m : MethodId) (i : Int32) (j : Int32) : entryFrame m #[(.int i), (.int j)] 2 = mkF m 0 #[.val (.int i), .val (.int j)] [] := by first | (simp [entryFrame, mkF, argsToLocals, Value.category]; done) | rfl
set_option maxRecDepth 65536 in
set_option maxHeartbeats 40000000 in
theorem con_ckl {kn : Prop} (l : Launch) (Z : State) (a0 : Array Value) (E0 : Env0 Z a0) (O P : List Ent) (n : Nat) (hn : n ≤ 60000) :
    Con kn l Z EL0 (⟨"java/util/Arrays", "checkLength", "(II)V"⟩ : MethodName) jdk_65_method_131_code 2 none [] ({ frames := 0, cells := 0, slots := 0, locals := 0 } : Room) #[.int (0 : Int32), .int n.toInt32] O P (fun v0 O' P' => v0 = none ∧ O = O' ∧ P = P') := by
  obtain ⟨hw, hs0, hEL, hS, ⟨cs0, hC0, hcs0⟩, ⟨fv, hFv, hfv⟩, hAD, hHI, hLO, hmore⟩ := id E0
  refine con_intro (plainFor_of_name pn_7) hEL (fun m => ef_ckl m _ _) ?_
  intro p e s m below meth c T W hnm
  refine g_iloadN W d33_0 (q := 1) rfl rfl ?_
  refine g_iloadN W d33_1 (q := 2) rfl rfl ?_
  refine g_icY W d33_2 (q := 37) (XT.ii_ge_t (own_nn (by omega))) (by decide) (by decide) ?_
  exact g_retV W rfl d33_37 (Nat.le_of_ble_eq_true rfl) (Nat.le_of_ble_eq_true rfl) ⟨rfl, rfl, rfl⟩
theorem d34_0 : decode jdk_65_method_133_code 0 = .ok (.iload_n 1, 1) := by decide +kernel
theorem d34_1 : decode jdk_65_method_133_code 1 = .ok (.iload_n 2, 1) := by decide +kernel
theorem d34_2 : decode jdk_65_method_133_code 2 = .ok (.invokestatic 343, 3) := by decide +kernel
theorem d34_5 : decode jdk_65_method_133_code 5 = .ok (.iload_n 2, 1) := by decide +kernel
theorem d34_6 : decode jdk_65_method_133_code 6 = .ok (.iload_n 1, 1) := by decide +kernel
theorem d34_7 : decode jdk_65_method_133_code 7 = .ok (.isub, 1) := by decide +kernel
theorem d34_8 : decode jdk_65_method_133_code 8 = .ok (.istore_n 3, 1) := by decide +kernel
theorem d34_9 : decode jdk_65_method_133_code 9 = .ok (.iload_n 3, 1) := by decide +kernel
theorem d34_10 : decode jdk_65_method_133_code 10 = .ok (.newarray .byte, 2) := by decide +kernel
theorem d34_12 : decode jdk_65_method_133_code 12 = .ok (.astore 4, 2) := by decide +kernel
theorem d34_14 : decode jdk_65_method_133_code 14 = .ok (.aload_n 0, 1) := by decide +kernel
theorem d34_15 : decode jdk_65_method_133_code 15 = .ok (.iload_n 1, 1) := by decide +kernel
theorem d34_16 : decode jdk_65_method_133_code 16 = .ok (.aload 4, 2) := by decide +kernel
theorem d34_18 : decode jdk_65_method_133_code 18 = .ok (.iconst 0, 1) := by decide +kernel
theorem d34_19 : decode jdk_65_method_133_code 19 = .ok (.aload_n 0, 1) := by decide +kernel
theorem d34_20 : decode jdk_65_method_133_code 20 = .ok (.arraylength, 1) := by decide +kernel
theorem d34_21 : decode jdk_65_method_133_code 21 = .ok (.iload_n 1, 1) := by decide +kernel
theorem d34_22 : decode jdk_65_method_133_code 22 = .ok (.isub, 1) := by decide +kernel
theorem d34_23 : decode jdk_65_method_133_code 23 = .ok (.iload_n 3, 1) := by decide +kernel
theorem d34_24 : decode jdk_65_method_133_code 24 = .ok (.invokestatic 304, 3) := by decide +kernel
theorem d34_27 : decode jdk_65_method_133_code 27 = .ok (.invokestatic 150, 3) := by decide +kernel
theorem d34_30 : decode jdk_65_method_133_code 30 = .ok (.aload 4, 2) := by decide +kernel
theorem d34_32 : decode jdk_65_method_133_code 32 = .ok (.areturn, 1) := by decide +kernel
theorem ef_crb (m : MethodId) (v : Addr) (i : Int32) (j : Int32) : entryFrame m #[(.ref v), (.int i), (.int j)] 5 = mkF m 0 #[.val (.ref v), .val (.int i), .val (.int j), .unset, .unset] [] := by first | (simp [entryFrame, mkF, argsToLocals, Value.category]; done) | rfl
theorem pd_24 : parseMethodDescriptor "(II)V" = some ⟨[.int, .int], none⟩ := by decide +kernel
set_option maxRecDepth 65536 in
set_option maxHeartbeats 40000000 in
theorem con_crb {kn : Prop} (l : Launch) (Z : State) (a0 : Array Value) (E0 : Env0 Z a0) (O P : List Ent) (i : Nat) (v : Addr) (vs : List Value) (n N : Nat) (hi : O[i]? = some (v, ArrC Z .byte vs)) (hn : n < vs.length) (hv : vs.length ≤ 60000) (hnN : n ≤ N) (hN : N ≤ 60000) :
    Con kn l Z EL0 (⟨"java/util/Arrays", "copyOfRangeByte", "([BII)[B"⟩ : MethodName) jdk_65_method_133_code 5 (some (.array .byte)) [] ({ frames := 1, cells := 1, slots := N, locals := 40 } : Room) #[.ref v, .int (0 : Int32), .int n.toInt32] O P (fun v0 O' P' => ∃ u, v0 = some (.ref u) ∧ O' = (u, ArrC Z .byte (vs.take n)) :: O ∧ P = P') := by
  obtain ⟨hw, hs0, hEL, hS, ⟨cs0, hC0, hcs0⟩, ⟨fv, hFv, hfv⟩, hAD, hHI, hLO, hmore⟩ := id E0
  refine con_intro (plainFor_of_name pn_7) hEL (fun m => ef_crb m _ _ _) ?_
  intro p e s m below meth c T W hnm
  refine g_iloadN W d34_0 (q := 1) rfl rfl ?_
  refine g_iloadN W d34_1 (q := 2) rfl rfl ?_
  refine g_static W (con_ckl l Z a0 E0 O P n (by omega)) (argsL := [(.int (0 : Int32)), (.int n.toInt32)]) (rest := []) rfl rfl pd_24 rfl (own_w hw 167 rfl) (own_w hw 168 rfl) (own_w hw 124 rfl) (own_w hw 169 rfl) (by decide) d34_2 (q := 5) rfl rfl (Nat.le_of_ble_eq_true rfl) (Nat.le_of_ble_eq_true rfl) (Nat.le_of_ble_eq_true rfl) (by dsimp only; omega) ?_
  rintro _ _ _ T ⟨rfl, rfl, rfl⟩ W
  refine g_iloadN W d34_5 (q := 6) rfl rfl ?_
  refine g_iloadN W d34_6 (q := 7) rfl rfl ?_
  refine g_isub W d34_7 (q := 8) (z := n.toInt32) (own_sub (j := 0) (by omega) (by omega)) rfl ?_
  refine g_istoreN W d34_8 (q := 9) (L' := #[.val (.ref v), .val (.int (0 : Int32)), .val (.int n.toInt32), .val (.int n.toInt32), .unset]) rfl rfl ?_
  refine g_iloadN W d34_9 (q := 10) rfl rfl ?_
  refine g_newA W (ty := .byte) (cap := N) (vs := List.replicate n (.int 0)) rfl (own_w hw 20 rfl) (own_nn (by omega)) (by rw [own_clamp (by omega)]; exact hnN) (by omega) rfl (by rw [own_clamp (by omega)]; rfl) d34_10 (q := 12) rfl (Nat.le_of_ble_eq_true rfl) (by dsimp only; omega) fun u T W => ?_
  refine g_astore W d34_12 (q := 14) (L' := #[.val (.ref v), .val (.int (0 : Int32)), .val (.int n.toInt32), .val (.int n.toInt32), .val (.ref u)]) rfl rfl rfl ?_
  refine g_aloadN W d34_14 (q := 15) rfl rfl rfl ?_
  refine g_iloadN W d34_15 (q := 16) rfl rfl ?_
  refine g_aload W d34_16 (q := 18) rfl rfl rfl ?_
  refine g_iconst W (v := (0 : Int32)) d34_18 (q := 19) rfl rfl ?_
  refine g_aloadN W d34_19 (q := 20) rfl rfl rfl ?_
  refine g_len W (W.ow (i := i + 1) hi) (z := vs.length.toInt32) rfl d34_20 (q := 21) rfl ?_
  refine g_iloadN W d34_21 (q := 22) rfl rfl ?_
  refine g_isub W d34_22 (q := 23) (z := vs.length.toInt32) (own_sub (j := 0) (by omega) (by omega)) rfl ?_
  refine g_iloadN W d34_23 (q := 24) rfl rfl ?_
  refine g_static W (con_min l Z a0 E0 _ P vs.length n (by omega) (by omega)) (argsL := [(.int vs.length.toInt32), (.int n.toInt32)]) (rest := [(.int (0 : Int32)), (.ref u), (.int (0 : Int32)), (.ref v)]) rfl rfl pd_13 rfl (own_w hw 126 rfl) (own_w hw 127 rfl) (own_w hw 118 rfl) (own_w hw 128 rfl) (by decide) d34_24 (q := 27) rfl rfl (Nat.le_of_ble_eq_true rfl) (Nat.le_of_ble_eq_true rfl) (Nat.le_of_ble_eq_true rfl) (by dsimp only; omega) ?_
  rintro _ _ _ T ⟨rfl, rfl, rfl⟩ W
  refine g_copy W (i := 0) (sp := 0) (dp := 0) (nn := n) (W.ow (i := i + 1) hi) rfl rfl rfl rfl (by rw [show min vs.length n = n by omega]) (by omega) (by rw [List.length_replicate]; omega) (own_w hw 129 rfl) (own_w hw 105 rfl) (own_w hw 103 rfl) (own_w hw 104 rfl) d34_27 (q := 30) rfl rfl (Nat.le_of_ble_eq_true rfl) (Nat.le_of_ble_eq_true rfl) (vd' := vs.take n) (own_cpr (by omega)) (O' := (u, ArrC Z .byte (vs.take n)) :: O) rfl fun T W => ?_
  refine g_aload W d34_30 (q := 32) rfl rfl rfl ?_
  exact g_retA W rfl rfl rfl d34_32 (Nat.le_of_ble_eq_true rfl) (by dsimp only; omega) ⟨u, rfl, rfl, rfl⟩
theorem d35_0 : decode jdk_65_method_132_code 0 = .ok (.iload_n 1, 1) := by decide +kernel
theorem d35_1 : decode jdk_65_method_132_code 1 = .ok (.ifCond .ne 9, 3) := by decide +kernel
theorem d35_4 : decode jdk_65_method_132_code 4 = .ok (.iload_n 2, 1) := by decide +kernel
theorem d35_5 : decode jdk_65_method_132_code 5 = .ok (.aload_n 0, 1) := by decide +kernel
theorem d35_6 : decode jdk_65_method_132_code 6 = .ok (.arraylength, 1) := by decide +kernel
theorem d35_7 : decode jdk_65_method_132_code 7 = .ok (.if_icmp .eq 10, 3) := by decide +kernel
theorem d35_10 : decode jdk_65_method_132_code 10 = .ok (.aload_n 0, 1) := by decide +kernel
theorem d35_11 : decode jdk_65_method_132_code 11 = .ok (.iload_n 1, 1) := by decide +kernel
theorem d35_12 : decode jdk_65_method_132_code 12 = .ok (.iload_n 2, 1) := by decide +kernel
theorem d35_13 : decode jdk_65_method_132_code 13 = .ok (.invokestatic 339, 3) := by decide +kernel
theorem d35_16 : decode jdk_65_method_132_code 16 = .ok (.areturn, 1) := by decide +kernel
theorem d35_17 : decode jdk_65_method_132_code 17 = .ok (.aload_n 0, 1) := by decide +kernel
theorem d35_24 : decode jdk_65_method_132_code 24 = .ok (.areturn, 1) := by decide +kernel
theorem ef_cor (m : MethodId) (v : Addr) (i : Int32) (j : Int32) : entryFrame m #[(.ref v), (.int i), (.int j)] 3 = mkF m 0 #[.val (.ref v), .val (.int i), .val (.int j)] [] := by first | (simp [entryFrame, mkF, argsToLocals, Value.category]; done) | rfl
theorem pd_25 : parseMethodDescriptor "([BII)[B" = some ⟨[(.array .byte), .int, .int], (some (.array .byte))⟩ := by decide +kernel
set_option maxRecDepth 65536 in
set_option maxHeartbeats 40000000 in
theorem con_cor {kn : Prop} (l : Launch) (Z : State) (a0 : Array Value) (E0 : Env0 Z a0) (O P : List Ent) (i : Nat) (v : Addr) (vs : List Value) (n N : Nat) (hi : O[i]? = some (v, ArrC Z .byte vs)) (hn : n < vs.length) (hv : vs.length ≤ 60000) (hnN : n ≤ N) (hN : N ≤ 60000) :
    Con kn l Z EL0 (⟨"java/util/Arrays", "copyOfRange", "([BII)[B"⟩ : MethodName) jdk_65_method_132_code 3 (some (.array .byte)) [] ({ frames := 2, cells := 1, slots := N, locals := 56 } : Room) #[.ref v, .int (0 : Int32), .int n.toInt32] O P (fun v0 O' P' => ∃ u, v0 = some (.ref u) ∧ O' = (u, ArrC Z .byte (vs.take n)) :: O ∧ P = P') := by
  obtain ⟨hw, hs0, hEL, hS, ⟨cs0, hC0, hcs0⟩, ⟨fv, hFv, hfv⟩, hAD, hHI, hLO, hmore⟩ := id E0
  refine con_intro (plainFor_of_name pn_7) hEL (fun m => ef_cor m _ _ _) ?_
  intro p e s m below meth c T W hnm
  refine g_iloadN W d35_0 (q := 1) rfl rfl ?_
  refine g_ifN W d35_1 (q := 4) (XT.i0_ne_f (by decide)) rfl ?_
  refine g_iloadN W d35_4 (q := 5) rfl rfl ?_
  refine g_aloadN W d35_5 (q := 6) rfl rfl rfl ?_
  refine g_len W (W.ow hi) (z := vs.length.toInt32) rfl d35_6 (q := 7) rfl ?_
  refine g_icN W d35_7 (q := 10) (XT.ii_eq_f (fun z => absurd ((own_eq (by omega) (by omega)).mp z) (by omega))) rfl ?_
  refine g_aloadN W d35_10 (q := 11) rfl rfl rfl ?_
  refine g_iloadN W d35_11 (q := 12) rfl rfl ?_
  refine g_iloadN W d35_12 (q := 13) rfl rfl ?_
  refine g_static W (con_crb l Z a0 E0 O P i v vs n N hi hn hv hnN hN) (argsL := [(.ref v), (.int (0 : Int32)), (.int n.toInt32)]) (rest := []) rfl rfl pd_25 rfl (own_w hw 164 rfl) (own_w hw 165 rfl) (own_w hw 124 rfl) (own_w hw 166 rfl) (by decide) d35_13 (q := 16) rfl rfl (Nat.le_of_ble_eq_true rfl) (Nat.le_of_ble_eq_true rfl) (Nat.le_of_ble_eq_true rfl) (by dsimp only; omega) ?_
  rintro _ _ _ T ⟨u, rfl, rfl, rfl⟩ W
  exact g_retA W rfl rfl rfl d35_16 (Nat.le_of_ble_eq_true rfl) (by dsimp only; omega) ⟨u, rfl, rfl, rfl⟩
theorem d36_0 : decode jdk_68_method_64_code 0 = .ok (.aload_n 0, 1) := by decide +kernel
theorem d36_1 : decode jdk_68_method_64_code 1 = .ok (.getfield 15, 3) := by decide +kernel
theorem d36_4 : decode jdk_68_method_64_code 4 = .ok (.areturn, 1) := by decide +kernel
theorem ef_gva (m : MethodId) (x : Addr) : entryFrame m #[(.ref x)] 1 = mkF m 0 #[.val (.ref x)] [] := by first | (simp [entryFrame, mkF, argsToLocals, Value.category]; done) | rfl
set_option maxRecDepth 65536 in
set_option maxHeartbeats 40000000 in
theorem con_gva0 {kn : Prop} (l : Launch) (Z : State) (a0 : Array Value) (E0 : Env0 Z a0) (O P : List Ent) (i : Nat) (x v : Addr) (z : Int32) (hi : O[i]? = some (x, ObjC Z "java/lang/StringBuilder" shSB [.ref v, .int (0 : Int32), .int z, .int 0])) :
    Con kn l Z EL0 (⟨"java/lang/AbstractStringBuilder", "getValue", "()[B"⟩ : MethodName) jdk_68_method_64_code 1 (some (.array .byte)) [] ({ frames := 0, cells := 0, slots := 0, locals := 0 } : Room) #[.ref x] O P (fun v0 O' P' => v0 = some (.ref v) ∧ O = O' ∧ P = P') := by
  obtain ⟨hw, hs0, hEL, hS, ⟨cs0, hC0, hcs0⟩, ⟨fv, hFv, hfv⟩, hAD, hHI, hLO, hmore⟩ := id E0
  refine con_intro (plainFor_of_name pn_8) hEL (fun m => ef_gva m _) ?_
  intro p e s m below meth c T W hnm
  refine g_aloadN W d36_0 (q := 1) rfl rfl rfl ?_
  refine g_getF W (W.ow hi) (i := 0) (v := .ref v) rfl rfl (own_w hw 54 rfl) d36_1 (q := 4) rfl fun T W => ?_
  exact g_retA W rfl rfl rfl d36_4 (Nat.le_of_ble_eq_true rfl) (Nat.le_of_ble_eq_true rfl) ⟨rfl, rfl, rfl⟩
set_option maxRecDepth 65536 in
set_option maxHeartbeats 40000000 in
theorem con_gva1 {kn : Prop} (l : Launch) (Z : State) (a0 : Array Value) (E0 : Env0 Z a0) (O P : List Ent) (i : Nat) (x v : Addr) (z : Int32) (hi : O[i]? = some (x, ObjC Z "java/lang/StringBuilder" shSB [.ref v, .int (1 : Int32), .int z, .int 0])) :
    Con kn l Z EL0 (⟨"java/lang/AbstractStringBuilder", "getValue", "()[B"⟩ : MethodName) jdk_68_method_64_code 1 (some (.array .byte)) [] ({ frames := 0, cells := 0, slots := 0, locals := 0 } : Room) #[.ref x] O P (fun v0 O' P' => v0 = some (.ref v) ∧ O = O' ∧ P = P') := by
  obtain ⟨hw, hs0, hEL, hS, ⟨cs0, hC0, hcs0⟩, ⟨fv, hFv, hfv⟩, hAD, hHI, hLO, hmore⟩ := id E0
  refine con_intro (plainFor_of_name pn_8) hEL (fun m => ef_gva m _) ?_
  intro p e s m below meth c T W hnm
  refine g_aloadN W d36_0 (q := 1) rfl rfl rfl ?_
  refine g_getF W (W.ow hi) (i := 0) (v := .ref v) rfl rfl (own_w hw 54 rfl) d36_1 (q := 4) rfl fun T W => ?_
  exact g_retA W rfl rfl rfl d36_4 (Nat.le_of_ble_eq_true rfl) (Nat.le_of_ble_eq_true rfl) ⟨rfl, rfl, rfl⟩
theorem d37_0 : decode jdk_68_method_6_code 0 = .ok (.aload_n 0, 1) := by decide +kernel
theorem d37_1 : decode jdk_68_method_6_code 1 = .ok (.getfield 79, 3) := by decide +kernel
theorem d37_4 : decode jdk_68_method_6_code 4 = .ok (.ireturn, 1) := by decide +kernel
theorem ef_asl (m : MethodId) (x : Addr) : entryFrame m #[(.ref x)] 1 = mkF m 0 #[.val (.ref x)] [] := by first | (simp [entryFrame, mkF, argsToLocals, Value.category]; done) | rfl
set_option maxRecDepth 65536 in
set_option maxHeartbeats 40000000 in
theorem con_asl0 {kn : Prop} (l : Launch) (Z : State) (a0 : Array Value) (E0 : Env0 Z a0) (O P : List Ent) (i : Nat) (x v : Addr) (z : Int32) (hi : O[i]? = some (x, ObjC Z "java/lang/StringBuilder" shSB [.ref v, .int (0 : Int32), .int z, .int 0])) :
    Con kn l Z EL0 (⟨"java/lang/AbstractStringBuilder", "length", "()I"⟩ : MethodName) jdk_68_method_6_code 1 (some .int) [] ({ frames := 0, cells := 0, slots := 0, locals := 0 } : Room) #[.ref x] O P (fun v0 O' P' => v0 = some (.int z) ∧ O = O' ∧ P = P') := by
  obtain ⟨hw, hs0, hEL, hS, ⟨cs0, hC0, hcs0⟩, ⟨fv, hFv, hfv⟩, hAD, hHI, hLO, hmore⟩ := id E0
  refine con_intro (plainFor_of_name pn_8) hEL (fun m => ef_asl m _) ?_
  intro p e s m below meth c T W hnm
  refine g_aloadN W d37_0 (q := 1) rfl rfl rfl ?_
  refine g_getF W (W.ow hi) (i := 2) (v := .int z) rfl rfl (own_w hw 79 rfl) d37_1 (q := 4) rfl fun T W => ?_
  exact g_retI W rfl (Or.inl rfl) rfl d37_4 (Nat.le_of_ble_eq_true rfl) (Nat.le_of_ble_eq_true rfl) ⟨rfl, rfl, rfl⟩
set_option maxRecDepth 65536 in
set_option maxHeartbeats 40000000 in
theorem con_asl1 {kn : Prop} (l : Launch) (Z : State) (a0 : Array Value) (E0 : Env0 Z a0) (O P : List Ent) (i : Nat) (x v : Addr) (z : Int32) (hi : O[i]? = some (x, ObjC Z "java/lang/StringBuilder" shSB [.ref v, .int (1 : Int32), .int z, .int 0])) :
    Con kn l Z EL0 (⟨"java/lang/AbstractStringBuilder", "length", "()I"⟩ : MethodName) jdk_68_method_6_code 1 (some .int) [] ({ frames := 0, cells := 0, slots := 0, locals := 0 } : Room) #[.ref x] O P (fun v0 O' P' => v0 = some (.int z) ∧ O = O' ∧ P = P') := by
  obtain ⟨hw, hs0, hEL, hS, ⟨cs0, hC0, hcs0⟩, ⟨fv, hFv, hfv⟩, hAD, hHI, hLO, hmore⟩ := id E0
  refine con_intro (plainFor_of_name pn_8) hEL (fun m => ef_asl m _) ?_
  intro p e s m below meth c T W hnm
  refine g_aloadN W d37_0 (q := 1) rfl rfl rfl ?_
  refine g_getF W (W.ow hi) (i := 2) (v := .int z) rfl rfl (own_w hw 79 rfl) d37_1 (q := 4) rfl fun T W => ?_
  exact g_retI W rfl (Or.inl rfl) rfl d37_4 (Nat.le_of_ble_eq_true rfl) (Nat.le_of_ble_eq_true rfl) ⟨rfl, rfl, rfl⟩
theorem d38_0 : decode jdk_67_method_93_code 0 = .ok (.aload_n 0, 1) := by decide +kernel
theorem d38_1 : decode jdk_67_method_93_code 1 = .ok (.invokespecial 343, 3) := by decide +kernel
theorem d38_4 : decode jdk_67_method_93_code 4 = .ok (.ireturn, 1) := by decide +kernel
theorem ef_sbl (m : MethodId) (x : Addr) : entryFrame m #[(.ref x)] 1 = mkF m 0 #[.val (.ref x)] [] := by first | (simp [entryFrame, mkF, argsToLocals, Value.category]; done) | rfl
theorem d39_0 : decode jdk_42_method_150_code 0 = .ok (.aload_n 0, 1) := by decide +kernel
theorem d39_1 : decode jdk_42_method_150_code 1 = .ok (.invokespecial 1, 3) := by decide +kernel
theorem d39_4 : decode jdk_42_method_150_code 4 = .ok (.aload_n 1, 1) := by decide +kernel
theorem d39_5 : decode jdk_42_method_150_code 5 = .ok (.invokevirtual 552, 3) := by decide +kernel
theorem d39_8 : decode jdk_42_method_150_code 8 = .ok (.astore_n 3, 1) := by decide +kernel
theorem d39_9 : decode jdk_42_method_150_code 9 = .ok (.aload_n 1, 1) := by decide +kernel
theorem d39_10 : decode jdk_42_method_150_code 10 = .ok (.invokevirtual 549, 3) := by decide +kernel
theorem d39_13 : decode jdk_42_method_150_code 13 = .ok (.istore 4, 2) := by decide +kernel
theorem d39_15 : decode jdk_42_method_150_code 15 = .ok (.aload_n 1, 1) := by decide +kernel
theorem d39_16 : decode jdk_42_method_150_code 16 = .ok (.invokevirtual 1047, 3) := by decide +kernel
theorem d39_19 : decode jdk_42_method_150_code 19 = .ok (.ifCond .eq 22, 3) := by decide +kernel
theorem d39_22 : decode jdk_42_method_150_code 22 = .ok (.aload_n 0, 1) := by decide +kernel
theorem d39_23 : decode jdk_42_method_150_code 23 = .ok (.iconst 0, 1) := by decide +kernel
theorem d39_24 : decode jdk_42_method_150_code 24 = .ok (.putfield 15, 3) := by decide +kernel
theorem d39_27 : decode jdk_42_method_150_code 27 = .ok (.aload_n 0, 1) := by decide +kernel
theorem d39_28 : decode jdk_42_method_150_code 28 = .ok (.aload_n 3, 1) := by decide +kernel
theorem d39_29 : decode jdk_42_method_150_code 29 = .ok (.iconst 0, 1) := by decide +kernel
theorem d39_30 : decode jdk_42_method_150_code 30 = .ok (.iload 4, 2) := by decide +kernel
theorem d39_32 : decode jdk_42_method_150_code 32 = .ok (.invokestatic 54, 3) := by decide +kernel
theorem d39_35 : decode jdk_42_method_150_code 35 = .ok (.putfield 9, 3) := by decide +kernel
theorem d39_38 : decode jdk_42_method_150_code 38 = .ok (.goto 59, 3) := by decide +kernel
theorem d39_41 : decode jdk_42_method_150_code 41 = .ok (.getstatic 38, 3) := by decide +kernel
theorem d39_44 : decode jdk_42_method_150_code 44 = .ok (.ifCond .eq 35, 3) := by decide +kernel
theorem d39_47 : decode jdk_42_method_150_code 47 = .ok (.aload_n 1, 1) := by decide +kernel
theorem d39_48 : decode jdk_42_method_150_code 48 = .ok (.getfield 1048, 3) := by decide +kernel
theorem d39_51 : decode jdk_42_method_150_code 51 = .ok (.ifCond .eq 28, 3) := by decide +kernel
theorem d39_54 : decode jdk_42_method_150_code 54 = .ok (.aload_n 0, 1) := by decide +kernel
theorem d39_55 : decode jdk_42_method_150_code 55 = .ok (.aload_n 3, 1) := by decide +kernel
theorem d39_56 : decode jdk_42_method_150_code 56 = .ok (.iconst 0, 1) := by decide +kernel
theorem d39_57 : decode jdk_42_method_150_code 57 = .ok (.iload 4, 2) := by decide +kernel
theorem d39_62 : decode jdk_42_method_150_code 62 = .ok (.putfield 9, 3) := by decide +kernel
theorem d39_65 : decode jdk_42_method_150_code 65 = .ok (.aload_n 0, 1) := by decide +kernel
theorem d39_66 : decode jdk_42_method_150_code 66 = .ok (.aload_n 0, 1) := by decide +kernel
theorem d39_67 : decode jdk_42_method_150_code 67 = .ok (.getfield 9, 3) := by decide +kernel
theorem d39_70 : decode jdk_42_method_150_code 70 = .ok (.iload 4, 2) := by decide +kernel
theorem d39_72 : decode jdk_42_method_150_code 72 = .ok (.invokestatic 47, 3) := by decide +kernel
theorem d39_75 : decode jdk_42_method_150_code 75 = .ok (.putfield 15, 3) := by decide +kernel
theorem d39_78 : decode jdk_42_method_150_code 78 = .ok (.return_, 1) := by decide +kernel
theorem d39_79 : decode jdk_42_method_150_code 79 = .ok (.aload_n 0, 1) := by decide +kernel
theorem d39_80 : decode jdk_42_method_150_code 80 = .ok (.iconst 1, 1) := by decide +kernel
theorem d39_81 : decode jdk_42_method_150_code 81 = .ok (.putfield 15, 3) := by decide +kernel
theorem d39_84 : decode jdk_42_method_150_code 84 = .ok (.aload_n 0, 1) := by decide +kernel
theorem d39_85 : decode jdk_42_method_150_code 85 = .ok (.aload_n 3, 1) := by decide +kernel
theorem d39_86 : decode jdk_42_method_150_code 86 = .ok (.iconst 0, 1) := by decide +kernel
theorem d39_87 : decode jdk_42_method_150_code 87 = .ok (.iload 4, 2) := by decide +kernel
theorem d39_89 : decode jdk_42_method_150_code 89 = .ok (.iconst 1, 1) := by decide +kernel
theorem d39_90 : decode jdk_42_method_150_code 90 = .ok (.ishl, 1) := by decide +kernel
theorem d39_91 : decode jdk_42_method_150_code 91 = .ok (.invokestatic 54, 3) := by decide +kernel
theorem d39_94 : decode jdk_42_method_150_code 94 = .ok (.putfield 9, 3) := by decide +kernel
theorem d39_97 : decode jdk_42_method_150_code 97 = .ok (.return_, 1) := by decide +kernel
theorem ef_sA (m : MethodId) (st : Addr) (x : Addr) : entryFrame m #[(.ref st), (.ref x), (.null)] 5 = mkF m 0 #[.val (.ref st), .val (.ref x), .val (.null), .unset, .unset] [] := by first | (simp [entryFrame, mkF, argsToLocals, Value.category]; done) | rfl
theorem d40_0 : decode jdk_42_method_53_code 0 = .ok (.aload_n 0, 1) := by decide +kernel
theorem d40_1 : decode jdk_42_method_53_code 1 = .ok (.aload_n 1, 1) := by decide +kernel
theorem d40_2 : decode jdk_42_method_53_code 2 = .ok (.aconst_null, 1) := by decide +kernel
theorem d40_3 : decode jdk_42_method_53_code 3 = .ok (.invokespecial 489, 3) := by decide +kernel
theorem d40_6 : decode jdk_42_method_53_code 6 = .ok (.return_, 1) := by decide +kernel
theorem ef_sSB (m : MethodId) (st : Addr) (x : Addr) : entryFrame m #[(.ref st), (.ref x)] 2 = mkF m 0 #[.val (.ref st), .val (.ref x)] [] := by first | (simp [entryFrame, mkF, argsToLocals, Value.category]; done) | rfl
theorem d41_0 : decode jdk_67_method_42_code 0 = .ok (.new 18, 3) := by decide +kernel
theorem d41_3 : decode jdk_67_method_42_code 3 = .ok (.dup, 1) := by decide +kernel
theorem d41_4 : decode jdk_67_method_42_code 4 = .ok (.aload_n 0, 1) := by decide +kernel
theorem d41_5 : decode jdk_67_method_42_code 5 = .ok (.invokespecial 137, 3) := by decide +kernel
theorem d41_8 : decode jdk_67_method_42_code 8 = .ok (.areturn, 1) := by decide +kernel
theorem ef_tos (m : MethodId) (x : Addr) : entryFrame m #[(.ref x)] 1 = mkF m 0 #[.val (.ref x)] [] := by first | (simp [entryFrame, mkF, argsToLocals, Value.category]; done) | rfl
set_option maxRecDepth 65536 in
set_option maxHeartbeats 40000000 in
theorem con_sbl0 {kn : Prop} (l : Launch) (Z : State) (a0 : Array Value) (E0 : Env0 Z a0) (O P : List Ent) (i : Nat) (x v : Addr) (z : Int32) (hi : O[i]? = some (x, ObjC Z "java/lang/StringBuilder" shSB [.ref v, .int (0 : Int32), .int z, .int 0])) :
    Con kn l Z EL0 (⟨"java/lang/StringBuilder", "length", "()I"⟩ : MethodName) jdk_67_method_93_code 1 (some .int) [] ({ frames := 1, cells := 0, slots := 0, locals := 12 } : Room) #[.ref x] O P (fun v0 O' P' => v0 = some (.int z) ∧ O = O' ∧ P = P') := by
  obtain ⟨hw, hs0, hEL, hS, ⟨cs0, hC0, hcs0⟩, ⟨fv, hFv, hfv⟩, hAD, hHI, hLO, hmore⟩ := id E0
  refine con_intro (plainFor_of_name pn_9) hEL (fun m => ef_sbl m _) ?_
  intro p e s m below meth c T W hnm
  refine g_aloadN W d38_0 (q := 1) rfl rfl rfl ?_
  refine g_super (y' := ⟨"java/lang/AbstractStringBuilder", "ensureCapacityInternal", "(I)V"⟩) W (con_asl0 l Z a0 E0 O P i x v z hi) (D := "java/lang/StringBuilder") (own_ex (W.ow hi) fun _ h => h.1) (argsL := []) (rest := []) rfl rfl pd_20 rfl (by decide) (own_w hw 154 rfl) (own_w hw 150 rfl) rfl (own_w hw 84 rfl) (own_w hw 66 rfl) (own_w hw 49 rfl) (own_w hw 50 rfl) (own_w hw 155 rfl) (by decide) d38_1 (q := 4) rfl rfl (Nat.le_of_ble_eq_true rfl) (Nat.le_of_ble_eq_true rfl) (Nat.le_of_ble_eq_true rfl) (Nat.le_of_ble_eq_true rfl) ?_
  rintro _ _ _ T ⟨rfl, rfl, rfl⟩ W
  exact g_retI W rfl (Or.inl rfl) rfl d38_4 (Nat.le_of_ble_eq_true rfl) (Nat.le_of_ble_eq_true rfl) ⟨rfl, rfl, rfl⟩
theorem pd_26 : parseMethodDescriptor "()[B" = some ⟨[], (some (.array .byte))⟩ := by decide +kernel
set_option maxRecDepth 65536 in
set_option maxHeartbeats 40000000 in
theorem con_sA0 {kn : Prop} (l : Launch) (Z : State) (a0 : Array Value) (E0 : Env0 Z a0) (O P : List Ent) (st : Addr) (x v : Addr) (cs : List Int32) (r : List Value) (N : Nat) (hr : 0 < r.length) (hl : cs.length + r.length ≤ 60000) (hc : cs.length ≤ N) (hN : N ≤ 60000) :
    Con kn l Z EL0 (⟨"java/lang/String", "<init>", "(Ljava/lang/AbstractStringBuilder;Ljava/lang/Void;)V"⟩ : MethodName) jdk_42_method_150_code 5 none [] ({ frames := 3, cells := 1, slots := N, locals := 71 } : Room) #[.ref st, .ref x, .null] ((st, ObjC Z "java/lang/String" shStr [.null, .int (0 : Int32)]) :: ((v, ArrC Z .byte (enc cs ++ r)) :: (x, ObjC Z "java/lang/StringBuilder" shSB [.ref v, .int (0 : Int32), .int (cs).length.toInt32, .int 0]) :: O)) P (fun v0 O' P' => v0 = none ∧ O' = ((v, ArrC Z .byte (enc cs ++ r)) :: (x, ObjC Z "java/lang/StringBuilder" shSB [.ref v, .int (0 : Int32), .int (cs).length.toInt32, .int 0]) :: O) ∧ (∀ y ∈ P, y ∈ P') ∧ ∃ u, (st, ObjC Z "java/lang/String" shStr [.ref u, .int (0 : Int32)]) ∈ P' ∧ (u, ArrC Z .byte (enc cs)) ∈ P') := by
  obtain ⟨hw, hs0, hEL, hS, ⟨cs0, hC0, hcs0⟩, ⟨fv, hFv, hfv⟩, hAD, hHI, hLO, hmore⟩ := id E0
  refine con_intro (plainFor_of_name pn_1) hEL (fun m => ef_sA m _ _) ?_
  intro p e s m below meth c T W hnm
  refine g_aloadN W d39_0 (q := 1) rfl rfl rfl ?_
  refine g_objInit W (own_w hw 12 rfl) (own_w hw 13 rfl) (own_w hw 14 rfl) d39_1 (q := 4) rfl rfl (Nat.le_of_ble_eq_true rfl) (Nat.le_of_ble_eq_true rfl) fun T W => ?_
  refine g_aloadN W d39_4 (q := 5) rfl rfl rfl ?_
  refine g_virtual W (con_gva0 l Z a0 E0 _ P 2 x v _ rfl) (own_ex (W.ow (i := 2) rfl) fun _ h => h.1) (argsL := []) (rest := []) rfl rfl pd_26 rfl (own_w hw 143 rfl) (own_w hw 144 rfl) (own_w hw 146 rfl) (own_w hw 145 rfl) (own_w hw 50 rfl) (own_w hw 147 rfl) (by decide) d39_5 (q := 8) rfl rfl (Nat.le_of_ble_eq_true rfl) (Nat.le_of_ble_eq_true rfl) (Nat.le_of_ble_eq_true rfl) (by dsimp only; omega) ?_
  rintro _ _ _ T ⟨rfl, rfl, rfl⟩ W
  refine g_astoreN W d39_8 (q := 9) (L' := #[.val (.ref st), .val (.ref x), .val (.null), .val (.ref v), .unset]) rfl rfl rfl ?_
  refine g_aloadN W d39_9 (q := 10) rfl rfl rfl ?_
  refine g_virtual2 (y := ⟨"java/lang/AbstractStringBuilder", "length", "()I"⟩) (y' := ⟨"java/lang/AbstractStringBuilder", "ensureCapacityInternal", "(I)V"⟩) W (con_sbl0 l Z a0 E0 _ P 2 x v _ rfl) (own_ex (W.ow (i := 2) rfl) fun _ h => h.1) (argsL := []) (rest := []) rfl rfl pd_20 rfl (own_w hw 148 rfl) (own_w hw 149 rfl) (own_w hw 151 rfl) (own_w hw 152 rfl) (own_w hw 150 rfl) rfl (own_w hw 84 rfl) (own_w hw 42 rfl) (own_w hw 153 rfl) (by decide) d39_10 (q := 13) rfl rfl (Nat.le_of_ble_eq_true rfl) (Nat.le_of_ble_eq_true rfl) (Nat.le_of_ble_eq_true rfl) (by dsimp only; omega) ?_
  rintro _ _ _ T ⟨rfl, rfl, rfl⟩ W
  refine g_istore W d39_13 (q := 15) (L' := #[.val (.ref st), .val (.ref x), .val (.null), .val (.ref v), .val (.int cs.length.toInt32)]) rfl rfl ?_
  refine g_aloadN W d39_15 (q := 16) rfl rfl rfl ?_
  refine g_virtual W (con_ail0 l Z a0 E0 _ P 2 x v _ rfl) (own_ex (W.ow (i := 2) rfl) fun _ h => h.1) (argsL := []) (rest := []) rfl rfl pd_16 rfl (own_w hw 156 rfl) (own_w hw 157 rfl) (own_w hw 159 rfl) (own_w hw 158 rfl) (own_w hw 50 rfl) (own_w hw 160 rfl) (by decide) d39_16 (q := 19) rfl rfl (Nat.le_of_ble_eq_true rfl) (Nat.le_of_ble_eq_true rfl) (Nat.le_of_ble_eq_true rfl) (by dsimp only; omega) ?_
  rintro _ _ _ T ⟨rfl, rfl, rfl⟩ W
  refine g_ifN W d39_19 (q := 22) (XT.i0_eq_f (by decide)) rfl ?_
  refine g_aloadN W d39_22 (q := 23) rfl rfl rfl ?_
  refine g_iconst W (v := (0 : Int32)) d39_23 (q := 24) rfl rfl ?_
  refine g_putF W (i := 0) (j := 1) rfl (shStr_ok hw) shStr_nd rfl rfl (own_w hw 27 rfl) (Or.inr ⟨(own_w hw 28 rfl), rfl, hnm⟩) (own_w hw 2 rfl) (ty := .byte) (by decide) rfl rfl d39_24 (q := 27) rfl (vs' := [.null, .int (0 : Int32)]) rfl (O' := (st, ObjC Z "java/lang/String" shStr [.null, .int (0 : Int32)]) :: ((v, ArrC Z .byte (enc cs ++ r)) :: (x, ObjC Z "java/lang/StringBuilder" shSB [.ref v, .int (0 : Int32), .int (cs).length.toInt32, .int 0]) :: O)) rfl fun T W => ?_
  refine g_aloadN W d39_27 (q := 28) rfl rfl rfl ?_
  refine g_aloadN W d39_28 (q := 29) rfl rfl rfl ?_
  refine g_iconst W (v := (0 : Int32)) d39_29 (q := 30) rfl rfl ?_
  refine g_iload W d39_30 (q := 32) rfl rfl ?_
  refine g_static W (con_cor l Z a0 E0 _ P 1 v _ (cs.length) N rfl (by rw [List.length_append, enc_len]; omega) (by rw [List.length_append, enc_len]; omega) hc hN) (argsL := [(.ref v), (.int (0 : Int32)), (.int cs.length.toInt32)]) (rest := [(.ref st)]) rfl rfl pd_25 rfl (own_w hw 161 rfl) (own_w hw 162 rfl) (own_w hw 124 rfl) (own_w hw 163 rfl) (by decide) d39_32 (q := 35) rfl rfl (Nat.le_of_ble_eq_true rfl) (Nat.le_of_ble_eq_true rfl) (Nat.le_of_ble_eq_true rfl) (by dsimp only; omega) ?_
  rintro _ _ _ T ⟨u, rfl, rfl, rfl⟩ W
  rw [own_takeE] at W
  refine g_putF W (i := 1) (j := 0) rfl (shStr_ok hw) shStr_nd rfl rfl (own_w hw 29 rfl) (Or.inr ⟨(own_w hw 30 rfl), rfl, hnm⟩) (own_w hw 2 rfl) (ty := (.array .byte)) (by decide) rfl rfl d39_35 (q := 38) rfl (vs' := [.ref u, .int (0 : Int32)]) rfl (O' := (u, ArrC Z .byte (enc cs)) :: (st, ObjC Z "java/lang/String" shStr [.ref u, .int (0 : Int32)]) :: ((v, ArrC Z .byte (enc cs ++ r)) :: (x, ObjC Z "java/lang/StringBuilder" shSB [.ref v, .int (0 : Int32), .int (cs).length.toInt32, .int 0]) :: O)) rfl fun T W => ?_
  refine g_goto W d39_38 (q := 97) (by decide) (by decide) ?_
  have W := W.share (i := 0) rfl
  have W := W.share (i := 0) rfl
  exact g_retV W rfl d39_97 (Nat.le_of_ble_eq_true rfl) (by dsimp only; omega) ⟨rfl, rfl, fun y hy => .tail _ (.tail _ hy), u, .head _, .tail _ (.head _)⟩
theorem pd_27 : parseMethodDescriptor "(Ljava/lang/AbstractStringBuilder;Ljava/lang/Void;)V" = some ⟨[(.object "java/lang/AbstractStringBuilder"), (.object "java/lang/Void")], none⟩ := by decide +kernel
set_option maxRecDepth 65536 in
set_option maxHeartbeats 40000000 in
theorem con_sSB0 {kn : Prop} (l : Launch) (Z : State) (a0 : Array Value) (E0 : Env0 Z a0) (O P : List Ent) (st : Addr) (x v : Addr) (cs : List Int32) (r : List Value) (N : Nat) (hr : 0 < r.length) (hl : cs.length + r.length ≤ 60000) (hc : cs.length ≤ N) (hN : N ≤ 60000) :
    Con kn l Z EL0 (⟨"java/lang/String", "<init>", "(Ljava/lang/StringBuilder;)V"⟩ : MethodName) jdk_42_method_53_code 2 none [] ({ frames := 4, cells := 1, slots := N, locals := 87 } : Room) #[.ref st, .ref x] ((st, ObjC Z "java/lang/String" shStr [.null, .int (0 : Int32)]) :: ((v, ArrC Z .byte (enc cs ++ r)) :: (x, ObjC Z "java/lang/StringBuilder" shSB [.ref v, .int (0 : Int32), .int (cs).length.toInt32, .int 0]) :: O)) P (fun v0 O' P' => v0 = none ∧ O' = ((v, ArrC Z .byte (enc cs ++ r)) :: (x, ObjC Z "java/lang/StringBuilder" shSB [.ref v, .int (0 : Int32), .int (cs).length.toInt32, .int 0]) :: O) ∧ (∀ y ∈ P, y ∈ P') ∧ ∃ u, (st, ObjC Z "java/lang/String" shStr [.ref u, .int (0 : Int32)]) ∈ P' ∧ (u, ArrC Z .byte (enc cs)) ∈ P') := by
  obtain ⟨hw, hs0, hEL, hS, ⟨cs0, hC0, hcs0⟩, ⟨fv, hFv, hfv⟩, hAD, hHI, hLO, hmore⟩ := id E0
  refine con_intro (plainFor_of_name pn_1) hEL (fun m => ef_sSB m _ _) ?_
  intro p e s m below meth c T W hnm
  refine g_aloadN W d40_0 (q := 1) rfl rfl rfl ?_
  refine g_aloadN W d40_1 (q := 2) rfl rfl rfl ?_
  refine g_null W d40_2 (q := 3) rfl ?_
  refine g_special W (con_sA0 l Z a0 E0 O P st x v cs r N hr hl hc hN) (argsL := [(.ref x), (.null)]) (rest := []) rfl rfl rfl pd_27 rfl (own_w hw 140 rfl) (own_w hw 141 rfl) (own_w hw 3 rfl) (own_w hw 142 rfl) (by decide) d40_3 (q := 6) rfl rfl (Nat.le_of_ble_eq_true rfl) (Nat.le_of_ble_eq_true rfl) (Nat.le_of_ble_eq_true rfl) (by dsimp only; omega) ?_
  rintro _ _ _ T ⟨rfl, rfl, hsub, hs⟩ W
  exact g_retV W rfl d40_6 (Nat.le_of_ble_eq_true rfl) (by dsimp only; omega) ⟨rfl, rfl, hsub, hs⟩
theorem pd_28 : parseMethodDescriptor "(Ljava/lang/StringBuilder;)V" = some ⟨[(.object "java/lang/StringBuilder")], none⟩ := by decide +kernel
set_option maxRecDepth 65536 in
set_option maxHeartbeats 40000000 in
theorem con_tos0 {kn : Prop} (l : Launch) (Z : State) (a0 : Array Value) (E0 : Env0 Z a0) (O P : List Ent) (x v : Addr) (cs : List Int32) (r : List Value) (N : Nat) (hr : 0 < r.length) (hl : cs.length + r.length ≤ 60000) (hc : cs.length ≤ N) (hN : N ≤ 60000) :
    Con kn l Z EL0 (⟨"java/lang/StringBuilder", "toString", "()Ljava/lang/String;"⟩ : MethodName) jdk_67_method_42_code 1 (some (.object "java/lang/String")) [] ({ frames := 5, cells := 2, slots := N + 4, locals := 101 } : Room) #[.ref x] ((v, ArrC Z .byte (enc cs ++ r)) :: (x, ObjC Z "java/lang/StringBuilder" shSB [.ref v, .int (0 : Int32), .int (cs).length.toInt32, .int 0]) :: O) P (fun v0 O' P' => ∃ t, v0 = some (.ref t) ∧ O' = ((v, ArrC Z .byte (enc cs ++ r)) :: (x, ObjC Z "java/lang/StringBuilder" shSB [.ref v, .int (0 : Int32), .int (cs).length.toInt32, .int 0]) :: O) ∧ (∀ y ∈ P, y ∈ P') ∧ ∃ u, (t, ObjC Z "java/lang/String" shStr [.ref u, .int (0 : Int32)]) ∈ P' ∧ (u, ArrC Z .byte (enc cs)) ∈ P') := by
  obtain ⟨hw, hs0, hEL, hS, ⟨cs0, hC0, hcs0⟩, ⟨fv, hFv, hfv⟩, hAD, hHI, hLO, hmore⟩ := id E0
  refine con_intro (plainFor_of_name pn_9) hEL (fun m => ef_tos m _) ?_
  intro p e s m below meth c T W hnm
  refine g_new W (shStr_ok hw) shStr_ds (own_w hw 136 rfl) (own_w hw 2 rfl) (own_w hw 3 rfl) d41_0 (q := 3) rfl (Nat.le_of_ble_eq_true rfl) (by dsimp only; omega) fun t T W => ?_
  refine g_dup W d41_3 (q := 4) rfl rfl ?_
  refine g_aloadN W d41_4 (q := 5) rfl rfl rfl ?_
  refine g_special W (con_sSB0 l Z a0 E0 O P t x v cs r N hr hl hc hN) (argsL := [(.ref x)]) (rest := [(.ref t)]) rfl rfl rfl pd_28 rfl (own_w hw 137 rfl) (own_w hw 138 rfl) (own_w hw 3 rfl) (own_w hw 139 rfl) (by decide) d41_5 (q := 8) rfl rfl (Nat.le_of_ble_eq_true rfl) (Nat.le_of_ble_eq_true rfl) (Nat.le_of_ble_eq_true rfl) (by dsimp only; omega) ?_
  rintro _ _ _ T ⟨rfl, rfl, hsub, hs⟩ W
  exact g_retA W rfl rfl rfl d41_8 (Nat.le_of_ble_eq_true rfl) (by dsimp only; omega) ⟨t, rfl, rfl, hsub, hs⟩
set_option maxRecDepth 65536 in
set_option maxHeartbeats 40000000 in
theorem con_sbl1 {kn : Prop} (l : Launch) (Z : State) (a0 : Array Value) (E0 : Env0 Z a0) (O P : List Ent) (i : Nat) (x v : Addr) (z : Int32) (hi : O[i]? = some (x, ObjC Z "java/lang/StringBuilder" shSB [.ref v, .int (1 : Int32), .int z, .int 0])) :
    Con kn l Z EL0 (⟨"java/lang/StringBuilder", "length", "()I"⟩ : MethodName) jdk_67_method_93_code 1 (some .int) [] ({ frames := 1, cells := 0, slots := 0, locals := 12 } : Room) #[.ref x] O P (fun v0 O' P' => v0 = some (.int z) ∧ O = O' ∧ P = P') := by
  obtain ⟨hw, hs0, hEL, hS, ⟨cs0, hC0, hcs0⟩, ⟨fv, hFv, hfv⟩, hAD, hHI, hLO, hmore⟩ := id E0
  refine con_intro (plainFor_of_name pn_9) hEL (fun m => ef_sbl m _) ?_
  intro p e s m below meth c T W hnm
  refine g_aloadN W d38_0 (q := 1) rfl rfl rfl ?_
  refine g_super (y' := ⟨"java/lang/AbstractStringBuilder", "ensureCapacityInternal", "(I)V"⟩) W (con_asl1 l Z a0 E0 O P i x v z hi) (D := "java/lang/StringBuilder") (own_ex (W.ow hi) fun _ h => h.1) (argsL := []) (rest := []) rfl rfl pd_20 rfl (by decide) (own_w hw 154 rfl) (own_w hw 150 rfl) rfl (own_w hw 84 rfl) (own_w hw 66 rfl) (own_w hw 49 rfl) (own_w hw 50 rfl) (own_w hw 155 rfl) (by decide) d38_1 (q := 4) rfl rfl (Nat.le_of_ble_eq_true rfl) (Nat.le_of_ble_eq_true rfl) (Nat.le_of_ble_eq_true rfl) (Nat.le_of_ble_eq_true rfl) ?_
  rintro _ _ _ T ⟨rfl, rfl, rfl⟩ W
  exact g_retI W rfl (Or.inl rfl) rfl d38_4 (Nat.le_of_ble_eq_true rfl) (Nat.le_of_ble_eq_true rfl) ⟨rfl, rfl, rfl⟩
set_option maxRecDepth 65536 in
set_option maxHeartbeats 40000000 in
theorem con_sA1 {kn : Prop} (l : Launch) (Z : State) (a0 : Array Value) (E0 : Env0 Z a0) (O P : List Ent) (st : Addr) (x v : Addr) (cs : List Int32) (r : List Value) (N : Nat) (hr : 0 < r.length) (hl : 2 * cs.length + r.length ≤ 60000) (hc : 2 * cs.length ≤ N) (hN : N ≤ 60000) :
    Con kn l Z EL0 (⟨"java/lang/String", "<init>", "(Ljava/lang/AbstractStringBuilder;Ljava/lang/Void;)V"⟩ : MethodName) jdk_42_method_150_code 5 none [] ({ frames := 3, cells := 1, slots := N, locals := 71 } : Room) #[.ref st, .ref x, .null] ((st, ObjC Z "java/lang/String" shStr [.null, .int (0 : Int32)]) :: ((v, ArrC Z .byte (enc16 cs ++ r)) :: (x, ObjC Z "java/lang/StringBuilder" shSB [.ref v, .int (1 : Int32), .int (cs).length.toInt32, .int 0]) :: O)) P (fun v0 O' P' => v0 = none ∧ O' = ((v, ArrC Z .byte (enc16 cs ++ r)) :: (x, ObjC Z "java/lang/StringBuilder" shSB [.ref v, .int (1 : Int32), .int (cs).length.toInt32, .int 0]) :: O) ∧ (∀ y ∈ P, y ∈ P') ∧ ∃ u, (st, ObjC Z "java/lang/String" shStr [.ref u, .int (1 : Int32)]) ∈ P' ∧ (u, ArrC Z .byte (enc16 cs)) ∈ P') := by
  obtain ⟨hw, hs0, hEL, hS, ⟨cs0, hC0, hcs0⟩, ⟨fv, hFv, hfv⟩, hAD, hHI, hLO, hmore⟩ := id E0
  refine con_intro (plainFor_of_name pn_1) hEL (fun m => ef_sA m _ _) ?_
  intro p e s m below meth c T W hnm
  refine g_aloadN W d39_0 (q := 1) rfl rfl rfl ?_
  refine g_objInit W (own_w hw 12 rfl) (own_w hw 13 rfl) (own_w hw 14 rfl) d39_1 (q := 4) rfl rfl (Nat.le_of_ble_eq_true rfl) (Nat.le_of_ble_eq_true rfl) fun T W => ?_
  refine g_aloadN W d39_4 (q := 5) rfl rfl rfl ?_
  refine g_virtual W (con_gva1 l Z a0 E0 _ P 2 x v _ rfl) (own_ex (W.ow (i := 2) rfl) fun _ h => h.1) (argsL := []) (rest := []) rfl rfl pd_26 rfl (own_w hw 143 rfl) (own_w hw 144 rfl) (own_w hw 146 rfl) (own_w hw 145 rfl) (own_w hw 50 rfl) (own_w hw 147 rfl) (by decide) d39_5 (q := 8) rfl rfl (Nat.le_of_ble_eq_true rfl) (Nat.le_of_ble_eq_true rfl) (Nat.le_of_ble_eq_true rfl) (by dsimp only; omega) ?_
  rintro _ _ _ T ⟨rfl, rfl, rfl⟩ W
  refine g_astoreN W d39_8 (q := 9) (L' := #[.val (.ref st), .val (.ref x), .val (.null), .val (.ref v), .unset]) rfl rfl rfl ?_
  refine g_aloadN W d39_9 (q := 10) rfl rfl rfl ?_
  refine g_virtual2 (y := ⟨"java/lang/AbstractStringBuilder", "length", "()I"⟩) (y' := ⟨"java/lang/AbstractStringBuilder", "ensureCapacityInternal", "(I)V"⟩) W (con_sbl1 l Z a0 E0 _ P 2 x v _ rfl) (own_ex (W.ow (i := 2) rfl) fun _ h => h.1) (argsL := []) (rest := []) rfl rfl pd_20 rfl (own_w hw 148 rfl) (own_w hw 149 rfl) (own_w hw 151 rfl) (own_w hw 152 rfl) (own_w hw 150 rfl) rfl (own_w hw 84 rfl) (own_w hw 42 rfl) (own_w hw 153 rfl) (by decide) d39_10 (q := 13) rfl rfl (Nat.le_of_ble_eq_true rfl) (Nat.le_of_ble_eq_true rfl) (Nat.le_of_ble_eq_true rfl) (by dsimp only; omega) ?_
  rintro _ _ _ T ⟨rfl, rfl, rfl⟩ W
  refine g_istore W d39_13 (q := 15) (L' := #[.val (.ref st), .val (.ref x), .val (.null), .val (.ref v), .val (.int cs.length.toInt32)]) rfl rfl ?_
  refine g_aloadN W d39_15 (q := 16) rfl rfl rfl ?_
  refine g_virtual W (con_ail1 l Z a0 E0 _ P 2 x v _ rfl) (own_ex (W.ow (i := 2) rfl) fun _ h => h.1) (argsL := []) (rest := []) rfl rfl pd_16 rfl (own_w hw 156 rfl) (own_w hw 157 rfl) (own_w hw 159 rfl) (own_w hw 158 rfl) (own_w hw 50 rfl) (own_w hw 160 rfl) (by decide) d39_16 (q := 19) rfl rfl (Nat.le_of_ble_eq_true rfl) (Nat.le_of_ble_eq_true rfl) (Nat.le_of_ble_eq_true rfl) (by dsimp only; omega) ?_
  rintro _ _ _ T ⟨rfl, rfl, rfl⟩ W
  refine g_ifY W d39_19 (q := 41) (XT.i0_eq_t (by decide)) (by decide) (by decide) ?_
  refine g_getS W hC0 (own_w hw 15 rfl) d39_41 (q := 44) rfl fun T W => ?_
  refine g_ifN W d39_44 (q := 47) (XT.i0_eq_f hcs0) rfl ?_
  refine g_aloadN W d39_47 (q := 48) rfl rfl rfl ?_
  refine g_getF W (W.ow (i := 2) rfl) (i := 3) (v := .int 0) rfl rfl (own_w hw 312 rfl) d39_48 (q := 51) rfl fun T W => ?_
  refine g_ifY W d39_51 (q := 79) (XT.i0_eq_t (by decide)) (by decide) (by decide) ?_
  refine g_aloadN W d39_79 (q := 80) rfl rfl rfl ?_
  refine g_iconst W (v := (1 : Int32)) d39_80 (q := 81) rfl rfl ?_
  refine g_putF W (i := 0) (j := 1) rfl (shStr_ok hw) shStr_nd rfl rfl (own_w hw 27 rfl) (Or.inr ⟨(own_w hw 28 rfl), rfl, hnm⟩) (own_w hw 2 rfl) (ty := .byte) (by decide) rfl rfl d39_81 (q := 84) rfl (vs' := [.null, .int (1 : Int32)]) rfl (O' := (st, ObjC Z "java/lang/String" shStr [.null, .int (1 : Int32)]) :: ((v, ArrC Z .byte (enc16 cs ++ r)) :: (x, ObjC Z "java/lang/StringBuilder" shSB [.ref v, .int (1 : Int32), .int (cs).length.toInt32, .int 0]) :: O)) rfl fun T W => ?_
  refine g_aloadN W d39_84 (q := 85) rfl rfl rfl ?_
  refine g_aloadN W d39_85 (q := 86) rfl rfl rfl ?_
  refine g_iconst W (v := (0 : Int32)) d39_86 (q := 87) rfl rfl ?_
  refine g_iload W d39_87 (q := 89) rfl rfl ?_
  refine g_iconst W (v := (1 : Int32)) d39_89 (q := 90) rfl rfl ?_
  refine g_ishl W d39_90 (q := 91) (z := (2 * cs.length).toInt32) (own_shl1 (by omega)) rfl ?_
  refine g_static W (con_cor l Z a0 E0 _ P 1 v _ (2 * cs.length) N rfl (by rw [List.length_append, enc16_len]; omega) (by rw [List.length_append, enc16_len]; omega) hc hN) (argsL := [(.ref v), (.int (0 : Int32)), (.int (2 * cs.length).toInt32)]) (rest := [(.ref st)]) rfl rfl pd_25 rfl (own_w hw 161 rfl) (own_w hw 162 rfl) (own_w hw 124 rfl) (own_w hw 163 rfl) (by decide) d39_91 (q := 94) rfl rfl (Nat.le_of_ble_eq_true rfl) (Nat.le_of_ble_eq_true rfl) (Nat.le_of_ble_eq_true rfl) (by dsimp only; omega) ?_
  rintro _ _ _ T ⟨u, rfl, rfl, rfl⟩ W
  rw [own_takeW] at W
  refine g_putF W (i := 1) (j := 0) rfl (shStr_ok hw) shStr_nd rfl rfl (own_w hw 29 rfl) (Or.inr ⟨(own_w hw 30 rfl), rfl, hnm⟩) (own_w hw 2 rfl) (ty := (.array .byte)) (by decide) rfl rfl d39_94 (q := 97) rfl (vs' := [.ref u, .int (1 : Int32)]) rfl (O' := (u, ArrC Z .byte (enc16 cs)) :: (st, ObjC Z "java/lang/String" shStr [.ref u, .int (1 : Int32)]) :: ((v, ArrC Z .byte (enc16 cs ++ r)) :: (x, ObjC Z "java/lang/StringBuilder" shSB [.ref v, .int (1 : Int32), .int (cs).length.toInt32, .int 0]) :: O)) rfl fun T W => ?_
  have W := W.share (i := 0) rfl
  have W := W.share (i := 0) rfl
  exact g_retV W rfl d39_97 (Nat.le_of_ble_eq_true rfl) (by dsimp only; omega) ⟨rfl, rfl, fun y hy => .tail _ (.tail _ hy), u, .head _, .tail _ (.head _)⟩
set_option maxRecDepth 65536 in
set_option maxHeartbeats 40000000 in
theorem con_sSB1 {kn : Prop} (l : Launch) (Z : State) (a0 : Array Value) (E0 : Env0 Z a0) (O P : List Ent) (st : Addr) (x v : Addr) (cs : List Int32) (r : List Value) (N : Nat) (hr : 0 < r.length) (hl : 2 * cs.length + r.length ≤ 60000) (hc : 2 * cs.length ≤ N) (hN : N ≤ 60000) :
    Con kn l Z EL0 (⟨"java/lang/String", "<init>", "(Ljava/lang/StringBuilder;)V"⟩ : MethodName) jdk_42_method_53_code 2 none [] ({ frames := 4, cells := 1, slots := N, locals := 87 } : Room) #[.ref st, .ref x] ((st, ObjC Z "java/lang/String" shStr [.null, .int (0 : Int32)]) :: ((v, ArrC Z .byte (enc16 cs ++ r)) :: (x, ObjC Z "java/lang/StringBuilder" shSB [.ref v, .int (1 : Int32), .int (cs).length.toInt32, .int 0]) :: O)) P (fun v0 O' P' => v0 = none ∧ O' = ((v, ArrC Z .byte (enc16 cs ++ r)) :: (x, ObjC Z "java/lang/StringBuilder" shSB [.ref v, .int (1 : Int32), .int (cs).length.toInt32, .int 0]) :: O) ∧ (∀ y ∈ P, y ∈ P') ∧ ∃ u, (st, ObjC Z "java/lang/String" shStr [.ref u, .int (1 : Int32)]) ∈ P' ∧ (u, ArrC Z .byte (enc16 cs)) ∈ P') := by
  obtain ⟨hw, hs0, hEL, hS, ⟨cs0, hC0, hcs0⟩, ⟨fv, hFv, hfv⟩, hAD, hHI, hLO, hmore⟩ := id E0
  refine con_intro (plainFor_of_name pn_1) hEL (fun m => ef_sSB m _ _) ?_
  intro p e s m below meth c T W hnm
  refine g_aloadN W d40_0 (q := 1) rfl rfl rfl ?_
  refine g_aloadN W d40_1 (q := 2) rfl rfl rfl ?_
  refine g_null W d40_2 (q := 3) rfl ?_
  refine g_special W (con_sA1 l Z a0 E0 O P st x v cs r N hr hl hc hN) (argsL := [(.ref x), (.null)]) (rest := []) rfl rfl rfl pd_27 rfl (own_w hw 140 rfl) (own_w hw 141 rfl) (own_w hw 3 rfl) (own_w hw 142 rfl) (by decide) d40_3 (q := 6) rfl rfl (Nat.le_of_ble_eq_true rfl) (Nat.le_of_ble_eq_true rfl) (Nat.le_of_ble_eq_true rfl) (by dsimp only; omega) ?_
  rintro _ _ _ T ⟨rfl, rfl, hsub, hs⟩ W
  exact g_retV W rfl d40_6 (Nat.le_of_ble_eq_true rfl) (by dsimp only; omega) ⟨rfl, rfl, hsub, hs⟩
set_option maxRecDepth 65536 in
set_option maxHeartbeats 40000000 in
theorem con_tos1 {kn : Prop} (l : Launch) (Z : State) (a0 : Array Value) (E0 : Env0 Z a0) (O P : List Ent) (x v : Addr) (cs : List Int32) (r : List Value) (N : Nat) (hr : 0 < r.length) (hl : 2 * cs.length + r.length ≤ 60000) (hc : 2 * cs.length ≤ N) (hN : N ≤ 60000) :
    Con kn l Z EL0 (⟨"java/lang/StringBuilder", "toString", "()Ljava/lang/String;"⟩ : MethodName) jdk_67_method_42_code 1 (some (.object "java/lang/String")) [] ({ frames := 5, cells := 2, slots := N + 4, locals := 101 } : Room) #[.ref x] ((v, ArrC Z .byte (enc16 cs ++ r)) :: (x, ObjC Z "java/lang/StringBuilder" shSB [.ref v, .int (1 : Int32), .int (cs).length.toInt32, .int 0]) :: O) P (fun v0 O' P' => ∃ t, v0 = some (.ref t) ∧ O' = ((v, ArrC Z .byte (enc16 cs ++ r)) :: (x, ObjC Z "java/lang/StringBuilder" shSB [.ref v, .int (1 : Int32), .int (cs).length.toInt32, .int 0]) :: O) ∧ (∀ y ∈ P, y ∈ P') ∧ ∃ u, (t, ObjC Z "java/lang/String" shStr [.ref u, .int (1 : Int32)]) ∈ P' ∧ (u, ArrC Z .byte (enc16 cs)) ∈ P') := by
  obtain ⟨hw, hs0, hEL, hS, ⟨cs0, hC0, hcs0⟩, ⟨fv, hFv, hfv⟩, hAD, hHI, hLO, hmore⟩ := id E0
  refine con_intro (plainFor_of_name pn_9) hEL (fun m => ef_tos m _) ?_
  intro p e s m below meth c T W hnm
  refine g_new W (shStr_ok hw) shStr_ds (own_w hw 136 rfl) (own_w hw 2 rfl) (own_w hw 3 rfl) d41_0 (q := 3) rfl (Nat.le_of_ble_eq_true rfl) (by dsimp only; omega) fun t T W => ?_
  refine g_dup W d41_3 (q := 4) rfl rfl ?_
  refine g_aloadN W d41_4 (q := 5) rfl rfl rfl ?_
  refine g_special W (con_sSB1 l Z a0 E0 O P t x v cs r N hr hl hc hN) (argsL := [(.ref x)]) (rest := [(.ref t)]) rfl rfl rfl pd_28 rfl (own_w hw 137 rfl) (own_w hw 138 rfl) (own_w hw 3 rfl) (own_w hw 139 rfl) (by decide) d41_5 (q := 8) rfl rfl (Nat.le_of_ble_eq_true rfl) (Nat.le_of_ble_eq_true rfl) (Nat.le_of_ble_eq_true rfl) (by dsimp only; omega) ?_
  rintro _ _ _ T ⟨rfl, rfl, hsub, hs⟩ W
  exact g_retA W rfl rfl rfl d41_8 (Nat.le_of_ble_eq_true rfl) (by dsimp only; omega) ⟨t, rfl, rfl, hsub, hs⟩
theorem enc_map (cs : List Int32) : ∃ ws : List Int32, enc cs = ws.map .int := ⟨cs.map fun c => c.toInt8.toInt32, by simp [enc]⟩
theorem enc16_map (cs : List Int32) : ∃ ws : List Int32, enc16 cs = ws.map .int := ⟨cs.flatMap fun c => [c.toInt8.toInt32, (c >>> ((8 : Int32) &&& 31)).toInt8.toInt32], by simp [enc16, List.map_flatMap]⟩
theorem d42_0 : decode jdk_43_method_13_code 0 = .ok (.aload_n 0, 1) := by decide +kernel
theorem d42_1 : decode jdk_43_method_13_code 1 = .ok (.arraylength, 1) := by decide +kernel
theorem d42_2 : decode jdk_43_method_13_code 2 = .ok (.aload_n 1, 1) := by decide +kernel
theorem d42_3 : decode jdk_43_method_13_code 3 = .ok (.arraylength, 1) := by decide +kernel
theorem d42_4 : decode jdk_43_method_13_code 4 = .ok (.if_icmp .ne 30, 3) := by decide +kernel
theorem d42_7 : decode jdk_43_method_13_code 7 = .ok (.iconst 0, 1) := by decide +kernel
theorem d42_8 : decode jdk_43_method_13_code 8 = .ok (.istore_n 2, 1) := by decide +kernel
theorem d42_9 : decode jdk_43_method_13_code 9 = .ok (.iload_n 2, 1) := by decide +kernel
theorem d42_10 : decode jdk_43_method_13_code 10 = .ok (.aload_n 0, 1) := by decide +kernel
theorem d42_11 : decode jdk_43_method_13_code 11 = .ok (.arraylength, 1) := by decide +kernel
theorem d42_12 : decode jdk_43_method_13_code 12 = .ok (.if_icmp .ge 20, 3) := by decide +kernel
theorem d42_15 : decode jdk_43_method_13_code 15 = .ok (.aload_n 0, 1) := by decide +kernel
theorem d42_16 : decode jdk_43_method_13_code 16 = .ok (.iload_n 2, 1) := by decide +kernel
theorem d42_17 : decode jdk_43_method_13_code 17 = .ok (.baload, 1) := by decide +kernel
theorem d42_18 : decode jdk_43_method_13_code 18 = .ok (.aload_n 1, 1) := by decide +kernel
theorem d42_19 : decode jdk_43_method_13_code 19 = .ok (.iload_n 2, 1) := by decide +kernel
theorem d42_20 : decode jdk_43_method_13_code 20 = .ok (.baload, 1) := by decide +kernel
theorem d42_21 : decode jdk_43_method_13_code 21 = .ok (.if_icmp .eq 5, 3) := by decide +kernel
theorem d42_24 : decode jdk_43_method_13_code 24 = .ok (.iconst 0, 1) := by decide +kernel
theorem d42_25 : decode jdk_43_method_13_code 25 = .ok (.ireturn, 1) := by decide +kernel
theorem d42_26 : decode jdk_43_method_13_code 26 = .ok (.iinc 2 1, 3) := by decide +kernel
theorem d42_29 : decode jdk_43_method_13_code 29 = .ok (.goto (-20), 3) := by decide +kernel
theorem d42_32 : decode jdk_43_method_13_code 32 = .ok (.iconst 1, 1) := by decide +kernel
theorem d42_33 : decode jdk_43_method_13_code 33 = .ok (.ireturn, 1) := by decide +kernel
theorem d42_34 : decode jdk_43_method_13_code 34 = .ok (.iconst 0, 1) := by decide +kernel
theorem d42_35 : decode jdk_43_method_13_code 35 = .ok (.ireturn, 1) := by decide +kernel
set_option maxRecDepth 65536 in
set_option maxHeartbeats 40000000 in
theorem leq_loop {kn : Prop} {p : Program} {l : Launch} {e : Env} {R : Room} {s : State} {m : MethodId} {args : Array Value} {below : List Frame} {meth : Method} {c : Code} {Z : State} {a0 : Array Value} {P : List Ent} {k n : Nat} {O : List Ent} {a b : Addr} {ws : List Int32} {Q : Option Value → List Ent → List Ent → Prop} (hl : ws.length ≤ 100000) (hA : (a, ArrC Z .byte (ws.map .int)) ∈ P) (hB : (b, ArrC Z .byte (ws.map .int)) ∈ P) (hk : k ≤ R.cells) (hn : n ≤ R.slots) (hQ : Q (some (.int (1 : Int32))) O P) : ∀ (j i : Nat), i + j = ws.length → ∀ (T : State),
    Wk kn p l e R s m args below meth c jdk_43_method_13_code 3 (some .boolean) Z a0 EL0 "java/lang/StringLatin1" T O P k n → Go p e below s R Z EL0 Q T (mkF m 9 #[.val (.ref a), .val (.ref b), .val (.int i.toInt32)] []) := by
  intro j
  induction j with
  | zero =>
    intro i hi T W
    refine g_iloadN W d42_9 (q := 10) rfl rfl ?_
    refine g_aloadN W d42_10 (q := 11) rfl rfl rfl ?_
    refine g_len W (W.rd hA) (z := ws.length.toInt32) (by rw [List.length_map]) d42_11 (q := 12) rfl ?_
    refine g_icY W d42_12 (q := 32) (XT.ii_ge_t (fun z => absurd ((own_lt (by omega) (by omega)).mp z) (by omega))) (by decide) (by decide) ?_
    refine g_iconst W (v := (1 : Int32)) d42_32 (q := 33) rfl rfl ?_
    exact g_retI W rfl (Or.inr (Or.inl rfl)) rfl d42_33 hk hn hQ
  | succ j ih =>
    intro i hi T W
    obtain ⟨u, hu⟩ : ∃ d, ws[i]? = some d := ⟨_, List.getElem?_eq_getElem (by omega)⟩
    refine g_iloadN W d42_9 (q := 10) rfl rfl ?_
    refine g_aloadN W d42_10 (q := 11) rfl rfl rfl ?_
    refine g_len W (W.rd hA) (z := ws.length.toInt32) (by rw [List.length_map]) d42_11 (q := 12) rfl ?_
    refine g_icN W d42_12 (q := 15) (XT.ii_ge_f ((own_lt (by omega) (by omega)).mpr (by omega))) rfl ?_
    refine g_aloadN W d42_15 (q := 16) rfl rfl rfl ?_
    refine g_iloadN W d42_16 (q := 17) rfl rfl ?_
    refine g_baload W (W.rd hA) (own_nn (by omega)) (i := i) (own_clamp (by omega)) (v := .int u) (by rw [List.getElem?_map, hu]; rfl) d42_17 (q := 18) rfl ?_
    refine g_aloadN W d42_18 (q := 19) rfl rfl rfl ?_
    refine g_iloadN W d42_19 (q := 20) rfl rfl ?_
    refine g_baload W (W.rd hB) (own_nn (by omega)) (i := i) (own_clamp (by omega)) (v := .int u) (by rw [List.getElem?_map, hu]; rfl) d42_20 (q := 21) rfl ?_
    refine g_icY W d42_21 (q := 26) (XT.ii_eq_t rfl) (by decide) (by decide) ?_
    refine g_iinc W d42_26 (q := 29) (z := (i + 1).toInt32) (L' := #[.val (.ref a), .val (.ref b), .val (.int (i + 1).toInt32)]) rfl (own_succ (by omega)) rfl rfl ?_
    refine g_goto W d42_29 (q := 9) (by decide) (by decide) ?_
    exact ih (i + 1) (by omega) T W
theorem ef_leq (m : MethodId) (a : Addr) (b : Addr) : entryFrame m #[(.ref a), (.ref b)] 3 = mkF m 0 #[.val (.ref a), .val (.ref b), .unset] [] := by first | (simp [entryFrame, mkF, argsToLocals, Value.category]; done) | rfl
set_option maxRecDepth 65536 in
set_option maxHeartbeats 40000000 in
theorem con_leq {kn : Prop} (l : Launch) (Z : State) (a0 : Array Value) (E0 : Env0 Z a0) (O P : List Ent) (a b : Addr) (ws : List Int32) (hl : ws.length ≤ 100000) (hA : (a, ArrC Z .byte (ws.map .int)) ∈ P) (hB : (b, ArrC Z .byte (ws.map .int)) ∈ P) :
    Con kn l Z EL0 (⟨"java/lang/StringLatin1", "equals", "([B[B)Z"⟩ : MethodName) jdk_43_method_13_code 3 (some .boolean) [] ({ frames := 0, cells := 0, slots := 0, locals := 0 } : Room) #[.ref a, .ref b] O P (fun v O' P' => v = some (.int (1 : Int32)) ∧ O = O' ∧ P = P') := by
  obtain ⟨hw, hs0, hEL, hS, ⟨cs0, hC0, hcs0⟩, ⟨fv, hFv, hfv⟩, hAD, hHI, hLO, hmore⟩ := id E0
  refine con_intro (plainFor_of_name pn_5) hEL (fun m => ef_leq m _ _) ?_
  intro p e s m below meth c T W hnm
  refine g_aloadN W d42_0 (q := 1) rfl rfl rfl ?_
  refine g_len W (W.rd hA) (z := ws.length.toInt32) (by rw [List.length_map]) d42_1 (q := 2) rfl ?_
  refine g_aloadN W d42_2 (q := 3) rfl rfl rfl ?_
  refine g_len W (W.rd hB) (z := ws.length.toInt32) (by rw [List.length_map]) d42_3 (q := 4) rfl ?_
  refine g_icN W d42_4 (q := 7) (XT.ii_ne_f rfl) rfl ?_
  refine g_iconst W (v := (0 : Int32)) d42_7 (q := 8) rfl rfl ?_
  refine g_istoreN W d42_8 (q := 9) (L' := #[.val (.ref a), .val (.ref b), .val (.int (0 : Int32))]) rfl rfl ?_
  exact leq_loop hl hA hB (Nat.le_of_ble_eq_true rfl) (Nat.le_of_ble_eq_true rfl) ⟨rfl, rfl, rfl⟩ ws.length 0 (Nat.zero_add _) T W
theorem d43_0 : decode jdk_42_method_66_code 0 = .ok (.aload_n 0, 1) := by decide +kernel
theorem d43_1 : decode jdk_42_method_66_code 1 = .ok (.aload_n 1, 1) := by decide +kernel
theorem d43_2 : decode jdk_42_method_66_code 2 = .ok (.if_acmp .ne 5, 3) := by decide +kernel
theorem d43_5 : decode jdk_42_method_66_code 5 = .ok (.iconst 1, 1) := by decide +kernel
theorem d43_6 : decode jdk_42_method_66_code 6 = .ok (.ireturn, 1) := by decide +kernel
theorem d43_7 : decode jdk_42_method_66_code 7 = .ok (.aload_n 1, 1) := by decide +kernel
theorem d43_8 : decode jdk_42_method_66_code 8 = .ok (.instanceof 10, 3) := by decide +kernel
theorem d43_11 : decode jdk_42_method_66_code 11 = .ok (.ifCond .eq 43, 3) := by decide +kernel
theorem d43_14 : decode jdk_42_method_66_code 14 = .ok (.aload_n 1, 1) := by decide +kernel
theorem d43_15 : decode jdk_42_method_66_code 15 = .ok (.checkcast 10, 3) := by decide +kernel
theorem d43_18 : decode jdk_42_method_66_code 18 = .ok (.astore_n 2, 1) := by decide +kernel
theorem d43_19 : decode jdk_42_method_66_code 19 = .ok (.getstatic 38, 3) := by decide +kernel
theorem d43_22 : decode jdk_42_method_66_code 22 = .ok (.ifCond .eq 14, 3) := by decide +kernel
theorem d43_25 : decode jdk_42_method_66_code 25 = .ok (.aload_n 0, 1) := by decide +kernel
theorem d43_26 : decode jdk_42_method_66_code 26 = .ok (.getfield 15, 3) := by decide +kernel
theorem d43_29 : decode jdk_42_method_66_code 29 = .ok (.aload_n 2, 1) := by decide +kernel
theorem d43_30 : decode jdk_42_method_66_code 30 = .ok (.getfield 15, 3) := by decide +kernel
theorem d43_33 : decode jdk_42_method_66_code 33 = .ok (.if_icmp .ne 21, 3) := by decide +kernel
theorem d43_36 : decode jdk_42_method_66_code 36 = .ok (.aload_n 0, 1) := by decide +kernel
theorem d43_37 : decode jdk_42_method_66_code 37 = .ok (.getfield 9, 3) := by decide +kernel
theorem d43_40 : decode jdk_42_method_66_code 40 = .ok (.aload_n 2, 1) := by decide +kernel
theorem d43_41 : decode jdk_42_method_66_code 41 = .ok (.getfield 9, 3) := by decide +kernel
theorem d43_44 : decode jdk_42_method_66_code 44 = .ok (.invokestatic 541, 3) := by decide +kernel
theorem d43_47 : decode jdk_42_method_66_code 47 = .ok (.ifCond .eq 7, 3) := by decide +kernel
theorem d43_50 : decode jdk_42_method_66_code 50 = .ok (.iconst 1, 1) := by decide +kernel
theorem d43_51 : decode jdk_42_method_66_code 51 = .ok (.goto 4, 3) := by decide +kernel
theorem d43_54 : decode jdk_42_method_66_code 54 = .ok (.iconst 0, 1) := by decide +kernel
theorem d43_55 : decode jdk_42_method_66_code 55 = .ok (.ireturn, 1) := by decide +kernel
theorem ef_seq (m : MethodId) (x : Addr) (y : Addr) : entryFrame m #[(.ref x), (.ref y)] 3 = mkF m 0 #[.val (.ref x), .val (.ref y), .unset] [] := by first | (simp [entryFrame, mkF, argsToLocals, Value.category]; done) | rfl
theorem pd_29 : parseMethodDescriptor "([B[B)Z" = some ⟨[(.array .byte), (.array .byte)], (some .boolean)⟩ := by decide +kernel
set_option maxRecDepth 65536 in
set_option maxHeartbeats 40000000 in
theorem con_seq0 {kn : Prop} (l : Launch) (Z : State) (a0 : Array Value) (E0 : Env0 Z a0) (O P : List Ent) (x y b1 b2 : Addr) (cs : List Int32) (hl : cs.length ≤ 40000) (hx1 : (x, ObjC Z "java/lang/String" shStr [.ref b1, .int (0 : Int32)]) ∈ P) (hb1 : (b1, ArrC Z .byte (enc cs)) ∈ P) (hx2 : (y, ObjC Z "java/lang/String" shStr [.ref b2, .int (0 : Int32)]) ∈ P) (hb2 : (b2, ArrC Z .byte (enc cs)) ∈ P) :
    Con kn l Z EL0 (⟨"java/lang/String", "equals", "(Ljava/lang/Object;)Z"⟩ : MethodName) jdk_42_method_66_code 3 (some .boolean) [] ({ frames := 1, cells := 0, slots := 0, locals := 14 } : Room) #[.ref x, .ref y] O P (fun v O' P' => v = some (.int (1 : Int32)) ∧ O = O' ∧ P = P') := by
  obtain ⟨hw, hs0, hEL, hS, ⟨cs0, hC0, hcs0⟩, ⟨fv, hFv, hfv⟩, hAD, hHI, hLO, hmore⟩ := id E0
  refine con_intro (plainFor_of_name pn_1) hEL (fun m => ef_seq m _ _) ?_
  intro p e s m below meth c T W hnm
  obtain ⟨ws, ews⟩ := enc_map cs
  have hwl : ws.length ≤ 100000 := by { have h := congrArg List.length ews; rw [enc_len, List.length_map] at h; omega }
  rw [ews] at hb1 hb2
  refine g_aloadN W d43_0 (q := 1) rfl rfl rfl ?_
  refine g_aloadN W d43_1 (q := 2) rfl rfl rfl ?_
  by_cases hz : x = y
  · refine g_acN W d43_2 (q := 5) rfl rfl (XT.aa_ne_f (congrArg Value.ref hz)) rfl ?_
    refine g_iconst W (v := (1 : Int32)) d43_5 (q := 6) rfl rfl ?_
    exact g_retI W rfl (Or.inr (Or.inl rfl)) rfl d43_6 (Nat.le_of_ble_eq_true rfl) (Nat.le_of_ble_eq_true rfl) ⟨rfl, rfl, rfl⟩
  · refine g_acY W d43_2 (q := 7) rfl rfl (XT.aa_ne_t (fun z => hz (Value.ref.inj z))) (by decide) (by decide) ?_
    refine g_aloadN W d43_7 (q := 8) rfl rfl rfl ?_
    refine g_inst W (own_ex (W.rd hx2) fun _ h => h.1) (own_w hw 260 rfl) (own_w hw 10 rfl) d43_8 (q := 11) rfl fun T W => ?_
    refine g_ifN W d43_11 (q := 14) (XT.i0_eq_f (by decide)) rfl ?_
    refine g_aloadN W d43_14 (q := 15) rfl rfl rfl ?_
    refine g_cast W (own_ex (W.rd hx2) fun _ h => h.1) (own_w hw 260 rfl) (own_w hw 10 rfl) d43_15 (q := 18) rfl fun T W => ?_
    refine g_astoreN W d43_18 (q := 19) (L' := #[.val (.ref x), .val (.ref y), .val (.ref y)]) rfl rfl rfl ?_
    refine g_getS W hC0 (own_w hw 15 rfl) d43_19 (q := 22) rfl fun T W => ?_
    refine g_ifN W d43_22 (q := 25) (XT.i0_eq_f hcs0) rfl ?_
    refine g_aloadN W d43_25 (q := 26) rfl rfl rfl ?_
    refine g_getF W (W.rd hx1) (i := 1) (v := .int (0 : Int32)) rfl rfl (own_w hw 27 rfl) d43_26 (q := 29) rfl fun T W => ?_
    refine g_aloadN W d43_29 (q := 30) rfl rfl rfl ?_
    refine g_getF W (W.rd hx2) (i := 1) (v := .int (0 : Int32)) rfl rfl (own_w hw 27 rfl) d43_30 (q := 33) rfl fun T W => ?_
    refine g_icN W d43_33 (q := 36) (XT.ii_ne_f (by decide)) rfl ?_
    refine g_aloadN W d43_36 (q := 37) rfl rfl rfl ?_
    refine g_getF W (W.rd hx1) (i := 0) (v := .ref b1) rfl rfl (own_w hw 29 rfl) d43_37 (q := 40) rfl fun T W => ?_
    refine g_aloadN W d43_40 (q := 41) rfl rfl rfl ?_
    refine g_getF W (W.rd hx2) (i := 0) (v := .ref b2) rfl rfl (own_w hw 29 rfl) d43_41 (q := 44) rfl fun T W => ?_
    refine g_static W (con_leq l Z a0 E0 O P b1 b2 ws hwl hb1 hb2) (argsL := [(.ref b1), (.ref b2)]) (rest := []) rfl rfl pd_29 rfl (own_w hw 261 rfl) (own_w hw 262 rfl) (own_w hw 263 rfl) (own_w hw 264 rfl) (by decide) d43_44 (q := 47) rfl rfl (Nat.le_of_ble_eq_true rfl) (Nat.le_of_ble_eq_true rfl) (Nat.le_of_ble_eq_true rfl) (Nat.le_of_ble_eq_true rfl) ?_
    rintro _ _ _ T ⟨rfl, rfl, rfl⟩ W
    refine g_ifN W d43_47 (q := 50) (XT.i0_eq_f (by decide)) rfl ?_
    refine g_iconst W (v := (1 : Int32)) d43_50 (q := 51) rfl rfl ?_
    refine g_goto W d43_51 (q := 55) (by decide) (by decide) ?_
    exact g_retI W rfl (Or.inr (Or.inl rfl)) rfl d43_55 (Nat.le_of_ble_eq_true rfl) (Nat.le_of_ble_eq_true rfl) ⟨rfl, rfl, rfl⟩
set_option maxRecDepth 65536 in
set_option maxHeartbeats 40000000 in
theorem con_seq1 {kn : Prop} (l : Launch) (Z : State) (a0 : Array Value) (E0 : Env0 Z a0) (O P : List Ent) (x y b1 b2 : Addr) (cs : List Int32) (hl : cs.length ≤ 40000) (hx1 : (x, ObjC Z "java/lang/String" shStr [.ref b1, .int (1 : Int32)]) ∈ P) (hb1 : (b1, ArrC Z .byte (enc16 cs)) ∈ P) (hx2 : (y, ObjC Z "java/lang/String" shStr [.ref b2, .int (1 : Int32)]) ∈ P) (hb2 : (b2, ArrC Z .byte (enc16 cs)) ∈ P) :
    Con kn l Z EL0 (⟨"java/lang/String", "equals", "(Ljava/lang/Object;)Z"⟩ : MethodName) jdk_42_method_66_code 3 (some .boolean) [] ({ frames := 1, cells := 0, slots := 0, locals := 14 } : Room) #[.ref x, .ref y] O P (fun v O' P' => v = some (.int (1 : Int32)) ∧ O = O' ∧ P = P') := by
  obtain ⟨hw, hs0, hEL, hS, ⟨cs0, hC0, hcs0⟩, ⟨fv, hFv, hfv⟩, hAD, hHI, hLO, hmore⟩ := id E0
  refine con_intro (plainFor_of_name pn_1) hEL (fun m => ef_seq m _ _) ?_
  intro p e s m below meth c T W hnm
  obtain ⟨ws, ews⟩ := enc16_map cs
  have hwl : ws.length ≤ 100000 := by { have h := congrArg List.length ews; rw [enc16_len, List.length_map] at h; omega }
  rw [ews] at hb1 hb2
  refine g_aloadN W d43_0 (q := 1) rfl rfl rfl ?_
  refine g_aloadN W d43_1 (q := 2) rfl rfl rfl ?_
  by_cases hz : x = y
  · refine g_acN W d43_2 (q := 5) rfl rfl (XT.aa_ne_f (congrArg Value.ref hz)) rfl ?_
    refine g_iconst W (v := (1 : Int32)) d43_5 (q := 6) rfl rfl ?_
    exact g_retI W rfl (Or.inr (Or.inl rfl)) rfl d43_6 (Nat.le_of_ble_eq_true rfl) (Nat.le_of_ble_eq_true rfl) ⟨rfl, rfl, rfl⟩
  · refine g_acY W d43_2 (q := 7) rfl rfl (XT.aa_ne_t (fun z => hz (Value.ref.inj z))) (by decide) (by decide) ?_
    refine g_aloadN W d43_7 (q := 8) rfl rfl rfl ?_
    refine g_inst W (own_ex (W.rd hx2) fun _ h => h.1) (own_w hw 260 rfl) (own_w hw 10 rfl) d43_8 (q := 11) rfl fun T W => ?_
    refine g_ifN W d43_11 (q := 14) (XT.i0_eq_f (by decide)) rfl ?_
    refine g_aloadN W d43_14 (q := 15) rfl rfl rfl ?_
    refine g_cast W (own_ex (W.rd hx2) fun _ h => h.1) (own_w hw 260 rfl) (own_w hw 10 rfl) d43_15 (q := 18) rfl fun T W => ?_
    refine g_astoreN W d43_18 (q := 19) (L' := #[.val (.ref x), .val (.ref y), .val (.ref y)]) rfl rfl rfl ?_
    refine g_getS W hC0 (own_w hw 15 rfl) d43_19 (q := 22) rfl fun T W => ?_
    refine g_ifN W d43_22 (q := 25) (XT.i0_eq_f hcs0) rfl ?_
    refine g_aloadN W d43_25 (q := 26) rfl rfl rfl ?_
    refine g_getF W (W.rd hx1) (i := 1) (v := .int (1 : Int32)) rfl rfl (own_w hw 27 rfl) d43_26 (q := 29) rfl fun T W => ?_
    refine g_aloadN W d43_29 (q := 30) rfl rfl rfl ?_
    refine g_getF W (W.rd hx2) (i := 1) (v := .int (1 : Int32)) rfl rfl (own_w hw 27 rfl) d43_30 (q := 33) rfl fun T W => ?_
    refine g_icN W d43_33 (q := 36) (XT.ii_ne_f (by decide)) rfl ?_
    refine g_aloadN W d43_36 (q := 37) rfl rfl rfl ?_
    refine g_getF W (W.rd hx1) (i := 0) (v := .ref b1) rfl rfl (own_w hw 29 rfl) d43_37 (q := 40) rfl fun T W => ?_
    refine g_aloadN W d43_40 (q := 41) rfl rfl rfl ?_
    refine g_getF W (W.rd hx2) (i := 0) (v := .ref b2) rfl rfl (own_w hw 29 rfl) d43_41 (q := 44) rfl fun T W => ?_
    refine g_static W (con_leq l Z a0 E0 O P b1 b2 ws hwl hb1 hb2) (argsL := [(.ref b1), (.ref b2)]) (rest := []) rfl rfl pd_29 rfl (own_w hw 261 rfl) (own_w hw 262 rfl) (own_w hw 263 rfl) (own_w hw 264 rfl) (by decide) d43_44 (q := 47) rfl rfl (Nat.le_of_ble_eq_true rfl) (Nat.le_of_ble_eq_true rfl) (Nat.le_of_ble_eq_true rfl) (Nat.le_of_ble_eq_true rfl) ?_
    rintro _ _ _ T ⟨rfl, rfl, rfl⟩ W
    refine g_ifN W d43_47 (q := 50) (XT.i0_eq_f (by decide)) rfl ?_
    refine g_iconst W (v := (1 : Int32)) d43_50 (q := 51) rfl rfl ?_
    refine g_goto W d43_51 (q := 55) (by decide) (by decide) ?_
    exact g_retI W rfl (Or.inr (Or.inl rfl)) rfl d43_55 (Nat.le_of_ble_eq_true rfl) (Nat.le_of_ble_eq_true rfl) ⟨rfl, rfl, rfl⟩
def shT8 : Shape := [("java/lang/Throwable", "backtrace", "Ljava/lang/Object;"), ("java/lang/Throwable", "stackTrace", "[Ljava/lang/StackTraceElement;"), ("java/lang/Throwable", "cause", "Ljava/lang/Throwable;"), ("java/lang/Throwable", "suppressedExceptions", "Ljava/util/List;"), ("java/lang/Throwable", "detailMessage", "Ljava/lang/String;"), ("com/example/handover/handover/ApiError", "status", "I"), ("com/example/handover/handover/ApiError", "type", "Ljava/lang/String;"), ("com/example/handover/handover/ApiError", "operationId", "Ljava/lang/String;")]
theorem shT8_ok {Z : State} {a0 : Array Value} (hw : ∀ d ∈ tables_1, d.before a0 Z = true) : ShOk Z a0 "com/example/handover/handover/ApiError" shT8 := fun i f hf => match i, hf with
    | 0, hf => by cases hf; exact ⟨(Or.inl (own_w hw 223 rfl)), _, (by decide : parseFieldDescriptor "Ljava/lang/Object;" = some (.object "java/lang/Object"))⟩
    | 1, hf => by cases hf; exact ⟨(Or.inl (own_w hw 195 rfl)), _, (by decide : parseFieldDescriptor "[Ljava/lang/StackTraceElement;" = some (.array (.object "java/lang/StackTraceElement")))⟩
    | 2, hf => by cases hf; exact ⟨(Or.inl (own_w hw 192 rfl)), _, (by decide : parseFieldDescriptor "Ljava/lang/Throwable;" = some (.object "java/lang/Throwable"))⟩
    | 3, hf => by cases hf; exact ⟨(Or.inl (own_w hw 198 rfl)), _, (by decide : parseFieldDescriptor "Ljava/util/List;" = some (.object "java/util/List"))⟩
    | 4, hf => by cases hf; exact ⟨(Or.inl (own_w hw 222 rfl)), _, (by decide : parseFieldDescriptor "Ljava/lang/String;" = some (.object "java/lang/String"))⟩
    | 5, hf => by cases hf; exact ⟨(Or.inr (own_w hw 228 rfl)), _, (by decide : parseFieldDescriptor "I" = some .int)⟩
    | 6, hf => by cases hf; exact ⟨(Or.inr (own_w hw 230 rfl)), _, (by decide : parseFieldDescriptor "Ljava/lang/String;" = some (.object "java/lang/String"))⟩
    | 7, hf => by cases hf; exact ⟨(Or.inr (own_w hw 232 rfl)), _, (by decide : parseFieldDescriptor "Ljava/lang/String;" = some (.object "java/lang/String"))⟩
    | i + 8, hf => by simp [shT8] at hf
theorem shT8_nd : (shT8.map (·.2.1)).Nodup := by decide +kernel
theorem shT8_ds : shT8.map (fun f => (parseFieldDescriptor f.2.2).map defaultValue) = [Value.null, .null, .null, .null, .null, .int 0, .null, .null].map some := by decide +kernel
def shT6 : Shape := [("java/lang/Throwable", "cause", "Ljava/lang/Throwable;"), ("java/lang/Throwable", "suppressedExceptions", "Ljava/util/List;"), ("java/lang/Throwable", "detailMessage", "Ljava/lang/String;"), ("com/example/handover/handover/ApiError", "status", "I"), ("com/example/handover/handover/ApiError", "type", "Ljava/lang/String;"), ("com/example/handover/handover/ApiError", "operationId", "Ljava/lang/String;")]
theorem shT6_ok {Z : State} {a0 : Array Value} (hw : ∀ d ∈ tables_1, d.before a0 Z = true) : ShOk Z a0 "com/example/handover/handover/ApiError" shT6 := fun i f hf => match i, hf with
    | 0, hf => by cases hf; exact ⟨(Or.inl (own_w hw 192 rfl)), _, (by decide : parseFieldDescriptor "Ljava/lang/Throwable;" = some (.object "java/lang/Throwable"))⟩
    | 1, hf => by cases hf; exact ⟨(Or.inl (own_w hw 198 rfl)), _, (by decide : parseFieldDescriptor "Ljava/util/List;" = some (.object "java/util/List"))⟩
    | 2, hf => by cases hf; exact ⟨(Or.inl (own_w hw 222 rfl)), _, (by decide : parseFieldDescriptor "Ljava/lang/String;" = some (.object "java/lang/String"))⟩
    | 3, hf => by cases hf; exact ⟨(Or.inr (own_w hw 228 rfl)), _, (by decide : parseFieldDescriptor "I" = some .int)⟩
    | 4, hf => by cases hf; exact ⟨(Or.inr (own_w hw 230 rfl)), _, (by decide : parseFieldDescriptor "Ljava/lang/String;" = some (.object "java/lang/String"))⟩
    | 5, hf => by cases hf; exact ⟨(Or.inr (own_w hw 232 rfl)), _, (by decide : parseFieldDescriptor "Ljava/lang/String;" = some (.object "java/lang/String"))⟩
    | i + 6, hf => by simp [shT6] at hf
theorem shT6_nd : (shT6.map (·.2.1)).Nodup := by decide +kernel
theorem shT6_ds : shT6.map (fun f => (parseFieldDescriptor f.2.2).map defaultValue) = [Value.null, .null, .null, .int 0, .null, .null].map some := by decide +kernel
def shAM : Shape := [("java/lang/Throwable", "detailMessage", "Ljava/lang/String;"), ("com/example/handover/handover/ApiError", "status", "I"), ("com/example/handover/handover/ApiError", "type", "Ljava/lang/String;"), ("com/example/handover/handover/ApiError", "operationId", "Ljava/lang/String;")]
theorem shAM_ok {Z : State} {a0 : Array Value} (hw : ∀ d ∈ tables_1, d.before a0 Z = true) : ShOk Z a0 "com/example/handover/handover/ApiError" shAM := fun i f hf => match i, hf with
    | 0, hf => by cases hf; exact ⟨(Or.inl (own_w hw 222 rfl)), _, (by decide : parseFieldDescriptor "Ljava/lang/String;" = some (.object "java/lang/String"))⟩
    | 1, hf => by cases hf; exact ⟨(Or.inr (own_w hw 228 rfl)), _, (by decide : parseFieldDescriptor "I" = some .int)⟩
    | 2, hf => by cases hf; exact ⟨(Or.inr (own_w hw 230 rfl)), _, (by decide : parseFieldDescriptor "Ljava/lang/String;" = some (.object "java/lang/String"))⟩
    | 3, hf => by cases hf; exact ⟨(Or.inr (own_w hw 232 rfl)), _, (by decide : parseFieldDescriptor "Ljava/lang/String;" = some (.object "java/lang/String"))⟩
    | i + 4, hf => by simp [shAM] at hf
theorem shAM_nd : (shAM.map (·.2.1)).Nodup := by decide +kernel
theorem shAM_ds : shAM.map (fun f => (parseFieldDescriptor f.2.2).map defaultValue) = [Value.null, .int 0, .null, .null].map some := by decide +kernel
set_option maxRecDepth 65536 in
set_option maxHeartbeats 40000000 in
theorem own_hA {Z : State} {a0 : Array Value} (hw : ∀ d ∈ tables_1, d.before a0 Z = true) : ∀ d ∈ Jvm.Free.Exc.excAtoms "com/example/handover/handover/ApiError", d ≠ supA → d.before a0 Z = true := fun d hd hne => hw d ((by decide +kernel : ∀ a ∈ Jvm.Free.Exc.excAtoms "com/example/handover/handover/ApiError", a ≠ supA → a ∈ tables_1) d hd hne)
theorem own_nm6 : ∀ f ∈ shT6, f.2.1 ≠ "backtrace" ∧ f.2.1 ≠ "depth" ∧ f.2.1 ≠ "stackTrace" := by decide +kernel
theorem own_t6 {Z : State} {v1 v2 v3 v4 v5 v6 : Value} {c : Cell} (h : ObjC Z "com/example/handover/handover/ApiError" shT6 [v1, v2, v3, v4, v5, v6] c) : ObjC Z "com/example/handover/handover/ApiError" shAM [v3, v4, v5, v6] c := ⟨h.1, fun i f v hi hv => h.2 (i + 2) f v hi hv⟩
theorem d44_0 : decode jdk_78_method_2_code 0 = .ok (.aload_n 0, 1) := by decide +kernel
theorem d44_1 : decode jdk_78_method_2_code 1 = .ok (.invokespecial 1, 3) := by decide +kernel
theorem d44_4 : decode jdk_78_method_2_code 4 = .ok (.aload_n 0, 1) := by decide +kernel
theorem d44_5 : decode jdk_78_method_2_code 5 = .ok (.aload_n 0, 1) := by decide +kernel
theorem d44_6 : decode jdk_78_method_2_code 6 = .ok (.putfield 7, 3) := by decide +kernel
theorem d44_9 : decode jdk_78_method_2_code 9 = .ok (.aload_n 0, 1) := by decide +kernel
theorem d44_10 : decode jdk_78_method_2_code 10 = .ok (.getstatic 13, 3) := by decide +kernel
theorem d44_13 : decode jdk_78_method_2_code 13 = .ok (.putfield 17, 3) := by decide +kernel
theorem d44_16 : decode jdk_78_method_2_code 16 = .ok (.aload_n 0, 1) := by decide +kernel
theorem d44_17 : decode jdk_78_method_2_code 17 = .ok (.getstatic 20, 3) := by decide +kernel
theorem d44_20 : decode jdk_78_method_2_code 20 = .ok (.putfield 24, 3) := by decide +kernel
theorem d44_23 : decode jdk_78_method_2_code 23 = .ok (.aload_n 0, 1) := by decide +kernel
theorem d44_24 : decode jdk_78_method_2_code 24 = .ok (.invokevirtual 27, 3) := by decide +kernel
theorem d44_27 : decode jdk_78_method_2_code 27 = .ok (.pop, 1) := by decide +kernel
theorem d44_28 : decode jdk_78_method_2_code 28 = .ok (.aload_n 0, 1) := by decide +kernel
theorem d44_29 : decode jdk_78_method_2_code 29 = .ok (.aload_n 1, 1) := by decide +kernel
theorem d44_30 : decode jdk_78_method_2_code 30 = .ok (.putfield 31, 3) := by decide +kernel
theorem d44_33 : decode jdk_78_method_2_code 33 = .ok (.return_, 1) := by decide +kernel
theorem ef_thI (m : MethodId) (x : Addr) (ms : Addr) : entryFrame m #[(.ref x), (.ref ms)] 2 = mkF m 0 #[.val (.ref x), .val (.ref ms)] [] := by first | (simp [entryFrame, mkF, argsToLocals, Value.category]; done) | rfl
theorem pn_10 : plainName "java/lang/Throwable" = true := by first | (simp [plainName, overriddenIn]; done) | decide +kernel
set_option maxRecDepth 65536 in
set_option maxHeartbeats 40000000 in
theorem con_thI {kn : Prop} (l : Launch) (Z : State) (a0 : Array Value) (E0 : Env0 Z a0) (hkn : kn) (hlt : l.stackTraces = true) (O P : List Ent) (x ms : Addr) :
    Con kn l Z EL0 (⟨"java/lang/Throwable", "<init>", "(Ljava/lang/String;)V"⟩ : MethodName) jdk_78_method_2_code 2 none [] ({ frames := 3, cells := 1, slots := 2752, locals := 42 } : Room) #[.ref x, .ref ms] ((x, UObj Z "com/example/handover/handover/ApiError" shT8 [.null, .null, .null, .null, .null, .int 0, .null, .null]) :: O) P (fun v0 O' P' => v0 = none ∧ O' = (x, ObjC Z "com/example/handover/handover/ApiError" shAM [.ref ms, .int 0, .null, .null]) :: O ∧ P = P') := by
  obtain ⟨hw, hs0, hEL, hS, ⟨cs0, hC0, hcs0⟩, ⟨fv, hFv, hfv⟩, hAD, hHI, hLO, hmore⟩ := id E0
  refine con_intro (plainFor_of_name pn_10) hEL (fun m => ef_thI m _ _) ?_
  intro p e s m below meth c T W hnm
  obtain ⟨⟨ur, hUr⟩, ⟨sr, hSr⟩⟩ := hmore
  refine g_aloadN W d44_0 (q := 1) rfl rfl rfl ?_
  refine g_objInit W (own_w hw 190 rfl) (own_w hw 13 rfl) (own_w hw 14 rfl) d44_1 (q := 4) rfl rfl (Nat.le_of_ble_eq_true rfl) (Nat.le_of_ble_eq_true rfl) fun T W => ?_
  refine g_aloadN W d44_4 (q := 5) rfl rfl rfl ?_
  refine g_aloadN W d44_5 (q := 6) rfl rfl rfl ?_
  refine g_putFU W (i := 0) (j := 2) rfl (shT8_ok hw) shT8_nd rfl rfl (own_w hw 191 rfl) (own_w hw 192 rfl) (own_w hw 36 rfl) (ty := (.object "java/lang/Throwable")) (by decide) rfl rfl d44_6 (q := 9) rfl (vs' := [.null, .null, .ref x, .null, .null, .int 0, .null, .null]) rfl (O' := (x, UObj Z "com/example/handover/handover/ApiError" shT8 [.null, .null, .ref x, .null, .null, .int 0, .null, .null]) :: O) rfl fun T W => ?_
  refine g_aloadN W d44_9 (q := 10) rfl rfl rfl ?_
  refine g_getS W hUr (own_w hw 193 rfl) d44_10 (q := 13) rfl fun T W => ?_
  refine g_putFU W (i := 0) (j := 1) rfl (shT8_ok hw) shT8_nd rfl rfl (own_w hw 194 rfl) (own_w hw 195 rfl) (own_w hw 36 rfl) (ty := (.array (.object "java/lang/StackTraceElement"))) (by decide) rfl rfl d44_13 (q := 16) rfl (vs' := [.null, .ref ur, .ref x, .null, .null, .int 0, .null, .null]) rfl (O' := (x, UObj Z "com/example/handover/handover/ApiError" shT8 [.null, .ref ur, .ref x, .null, .null, .int 0, .null, .null]) :: O) rfl fun T W => ?_
  refine g_aloadN W d44_16 (q := 17) rfl rfl rfl ?_
  refine g_getS W hSr (own_w hw 196 rfl) d44_17 (q := 20) rfl fun T W => ?_
  refine g_putFU W (i := 0) (j := 3) rfl (shT8_ok hw) shT8_nd rfl rfl (own_w hw 197 rfl) (own_w hw 198 rfl) (own_w hw 36 rfl) (ty := (.object "java/util/List")) (by decide) rfl rfl d44_20 (q := 23) rfl (vs' := [.null, .ref ur, .ref x, .ref sr, .null, .int 0, .null, .null]) rfl (O' := (x, UObj Z "com/example/handover/handover/ApiError" shT8 [.null, .ref ur, .ref x, .ref sr, .null, .int 0, .null, .null]) :: O) rfl fun T W => ?_
  refine g_aloadN W d44_23 (q := 24) rfl rfl rfl ?_
  refine g_fill W hkn hlt (i := 0) (sh := shT6) (vs := [.ref x, .ref sr, .null, .int 0, .null, .null]) rfl hUr (by decide) (own_hA hw) (own_w hw 36 rfl) (shT6_ok hw) own_nm6 d44_24 (q := 27) rfl rfl (Nat.le_of_ble_eq_true rfl) (Nat.le_of_ble_eq_true rfl) (Nat.le_of_ble_eq_true rfl) (Nat.le_of_ble_eq_true rfl) (O' := (x, ObjC Z "com/example/handover/handover/ApiError" shT6 [.ref x, .ref sr, .null, .int 0, .null, .null]) :: O) rfl fun T W => ?_
  refine g_pop W d44_27 (q := 28) rfl rfl ?_
  refine g_aloadN W d44_28 (q := 29) rfl rfl rfl ?_
  refine g_aloadN W d44_29 (q := 30) rfl rfl rfl ?_
  refine g_putF W (i := 0) (j := 2) rfl (shT6_ok hw) shT6_nd rfl rfl (own_w hw 226 rfl) (Or.inl (own_w hw 222 rfl)) (own_w hw 36 rfl) (ty := (.object "java/lang/String")) (by decide) rfl rfl d44_30 (q := 33) rfl (vs' := [.ref x, .ref sr, .ref ms, .int 0, .null, .null]) rfl (O' := (x, ObjC Z "com/example/handover/handover/ApiError" shT6 [.ref x, .ref sr, .ref ms, .int 0, .null, .null]) :: O) rfl fun T W => ?_
  have W := W.weak (i := 0) rfl (fun c h => own_t6 h)
  exact g_retV W rfl d44_33 (Nat.le_of_ble_eq_true rfl) (Nat.le_of_ble_eq_true rfl) ⟨rfl, rfl, rfl⟩
theorem d45_0 : decode jdk_59_method_2_code 0 = .ok (.aload_n 0, 1) := by decide +kernel
theorem d45_1 : decode jdk_59_method_2_code 1 = .ok (.aload_n 1, 1) := by decide +kernel
theorem d45_2 : decode jdk_59_method_2_code 2 = .ok (.invokespecial 7, 3) := by decide +kernel
theorem d45_5 : decode jdk_59_method_2_code 5 = .ok (.return_, 1) := by decide +kernel
theorem ef_exI (m : MethodId) (x : Addr) (ms : Addr) : entryFrame m #[(.ref x), (.ref ms)] 2 = mkF m 0 #[.val (.ref x), .val (.ref ms)] [] := by first | (simp [entryFrame, mkF, argsToLocals, Value.category]; done) | rfl
theorem pn_11 : plainName "java/lang/Exception" = true := by first | (simp [plainName, overriddenIn]; done) | decide +kernel
set_option maxRecDepth 65536 in
set_option maxHeartbeats 40000000 in
theorem con_exI {kn : Prop} (l : Launch) (Z : State) (a0 : Array Value) (E0 : Env0 Z a0) (hkn : kn) (hlt : l.stackTraces = true) (O P : List Ent) (x ms : Addr) :
    Con kn l Z EL0 (⟨"java/lang/Exception", "<init>", "(Ljava/lang/String;)V"⟩ : MethodName) jdk_59_method_2_code 2 none [] ({ frames := 4, cells := 1, slots := 2752, locals := 55 } : Room) #[.ref x, .ref ms] ((x, UObj Z "com/example/handover/handover/ApiError" shT8 [.null, .null, .null, .null, .null, .int 0, .null, .null]) :: O) P (fun v0 O' P' => v0 = none ∧ O' = (x, ObjC Z "com/example/handover/handover/ApiError" shAM [.ref ms, .int 0, .null, .null]) :: O ∧ P = P') := by
  obtain ⟨hw, hs0, hEL, hS, ⟨cs0, hC0, hcs0⟩, ⟨fv, hFv, hfv⟩, hAD, hHI, hLO, hmore⟩ := id E0
  refine con_intro (plainFor_of_name pn_11) hEL (fun m => ef_exI m _ _) ?_
  intro p e s m below meth c T W hnm
  refine g_aloadN W d45_0 (q := 1) rfl rfl rfl ?_
  refine g_aloadN W d45_1 (q := 2) rfl rfl rfl ?_
  refine g_special W (con_thI l Z a0 E0 hkn hlt O P x ms) (argsL := [(.ref ms)]) (rest := []) rfl rfl rfl pd_18 rfl (own_w hw 184 rfl) (own_w hw 185 rfl) (own_w hw 188 rfl) (own_w hw 189 rfl) (by decide) d45_2 (q := 5) rfl rfl (Nat.le_of_ble_eq_true rfl) (Nat.le_of_ble_eq_true rfl) (Nat.le_of_ble_eq_true rfl) (Nat.le_of_ble_eq_true rfl) ?_
  rintro _ _ _ T ⟨rfl, rfl, rfl⟩ W
  exact g_retV W rfl d45_5 (Nat.le_of_ble_eq_true rfl) (Nat.le_of_ble_eq_true rfl) ⟨rfl, rfl, rfl⟩
theorem d46_0 : decode jdk_58_method_2_code 0 = .ok (.aload_n 0, 1) := by decide +kernel
theorem d46_1 : decode jdk_58_method_2_code 1 = .ok (.aload_n 1, 1) := by decide +kernel
theorem d46_2 : decode jdk_58_method_2_code 2 = .ok (.invokespecial 7, 3) := by decide +kernel
theorem d46_5 : decode jdk_58_method_2_code 5 = .ok (.return_, 1) := by decide +kernel
theorem ef_rtI (m : MethodId) (x : Addr) (ms : Addr) : entryFrame m #[(.ref x), (.ref ms)] 2 = mkF m 0 #[.val (.ref x), .val (.ref ms)] [] := by first | (simp [entryFrame, mkF, argsToLocals, Value.category]; done) | rfl
theorem pn_12 : plainName "java/lang/RuntimeException" = true := by first | (simp [plainName, overriddenIn]; done) | decide +kernel
set_option maxRecDepth 65536 in
set_option maxHeartbeats 40000000 in
theorem con_rtI {kn : Prop} (l : Launch) (Z : State) (a0 : Array Value) (E0 : Env0 Z a0) (hkn : kn) (hlt : l.stackTraces = true) (O P : List Ent) (x ms : Addr) :
    Con kn l Z EL0 (⟨"java/lang/RuntimeException", "<init>", "(Ljava/lang/String;)V"⟩ : MethodName) jdk_58_method_2_code 2 none [] ({ frames := 5, cells := 1, slots := 2752, locals := 68 } : Room) #[.ref x, .ref ms] ((x, UObj Z "com/example/handover/handover/ApiError" shT8 [.null, .null, .null, .null, .null, .int 0, .null, .null]) :: O) P (fun v0 O' P' => v0 = none ∧ O' = (x, ObjC Z "com/example/handover/handover/ApiError" shAM [.ref ms, .int 0, .null, .null]) :: O ∧ P = P') := by
  obtain ⟨hw, hs0, hEL, hS, ⟨cs0, hC0, hcs0⟩, ⟨fv, hFv, hfv⟩, hAD, hHI, hLO, hmore⟩ := id E0
  refine con_intro (plainFor_of_name pn_12) hEL (fun m => ef_rtI m _ _) ?_
  intro p e s m below meth c T W hnm
  refine g_aloadN W d46_0 (q := 1) rfl rfl rfl ?_
  refine g_aloadN W d46_1 (q := 2) rfl rfl rfl ?_
  refine g_special W (con_exI l Z a0 E0 hkn hlt O P x ms) (argsL := [(.ref ms)]) (rest := []) rfl rfl rfl pd_18 rfl (own_w hw 178 rfl) (own_w hw 179 rfl) (own_w hw 182 rfl) (own_w hw 183 rfl) (by decide) d46_2 (q := 5) rfl rfl (Nat.le_of_ble_eq_true rfl) (Nat.le_of_ble_eq_true rfl) (Nat.le_of_ble_eq_true rfl) (Nat.le_of_ble_eq_true rfl) ?_
  rintro _ _ _ T ⟨rfl, rfl, rfl⟩ W
  exact g_retV W rfl d46_5 (Nat.le_of_ble_eq_true rfl) (Nat.le_of_ble_eq_true rfl) ⟨rfl, rfl, rfl⟩
theorem d47_0 : decode prog_1_method_2_code 0 = .ok (.aload_n 0, 1) := by decide +kernel
theorem d47_1 : decode prog_1_method_2_code 1 = .ok (.aload_n 3, 1) := by decide +kernel
theorem d47_2 : decode prog_1_method_2_code 2 = .ok (.invokespecial 7, 3) := by decide +kernel
theorem d47_5 : decode prog_1_method_2_code 5 = .ok (.aload_n 0, 1) := by decide +kernel
theorem d47_6 : decode prog_1_method_2_code 6 = .ok (.iload_n 1, 1) := by decide +kernel
theorem d47_7 : decode prog_1_method_2_code 7 = .ok (.putfield 12, 3) := by decide +kernel
theorem d47_10 : decode prog_1_method_2_code 10 = .ok (.aload_n 0, 1) := by decide +kernel
theorem d47_11 : decode prog_1_method_2_code 11 = .ok (.aload_n 2, 1) := by decide +kernel
theorem d47_12 : decode prog_1_method_2_code 12 = .ok (.putfield 16, 3) := by decide +kernel
theorem d47_15 : decode prog_1_method_2_code 15 = .ok (.aload_n 0, 1) := by decide +kernel
theorem d47_16 : decode prog_1_method_2_code 16 = .ok (.aload 4, 2) := by decide +kernel
theorem d47_18 : decode prog_1_method_2_code 18 = .ok (.putfield 20, 3) := by decide +kernel
theorem d47_21 : decode prog_1_method_2_code 21 = .ok (.return_, 1) := by decide +kernel
theorem ef_aeI (m : MethodId) (x : Addr) (i : Int32) (t : Addr) (ms : Addr) (op : Addr) : entryFrame m #[(.ref x), (.int i), (.ref t), (.ref ms), (.ref op)] 5 = mkF m 0 #[.val (.ref x), .val (.int i), .val (.ref t), .val (.ref ms), .val (.ref op)] [] := by first | (simp [entryFrame, mkF, argsToLocals, Value.category]; done) | rfl
theorem pn_13 : plainName "com/example/handover/handover/ApiError" = true := by first | (simp [plainName, overriddenIn]; done) | decide +kernel
set_option maxRecDepth 65536 in
set_option maxHeartbeats 40000000 in
theorem con_aeI {kn : Prop} (l : Launch) (Z : State) (a0 : Array Value) (E0 : Env0 Z a0) (hkn : kn) (hlt : l.stackTraces = true) (O P : List Ent) (x t ms op : Addr) (i : Int32) :
    Con kn l Z EL0 (⟨"com/example/handover/handover/ApiError", "<init>", "(ILjava/lang/String;Ljava/lang/String;Ljava/lang/String;)V"⟩ : MethodName) prog_1_method_2_code 5 none [] ({ frames := 6, cells := 1, slots := 2752, locals := 84 } : Room) #[.ref x, .int i, .ref t, .ref ms, .ref op] ((x, UObj Z "com/example/handover/handover/ApiError" shT8 [.null, .null, .null, .null, .null, .int 0, .null, .null]) :: O) P (fun v0 O' P' => v0 = none ∧ O' = (x, ObjC Z "com/example/handover/handover/ApiError" shAM [.ref ms, .int i, .ref t, .ref op]) :: O ∧ P = P') := by
  obtain ⟨hw, hs0, hEL, hS, ⟨cs0, hC0, hcs0⟩, ⟨fv, hFv, hfv⟩, hAD, hHI, hLO, hmore⟩ := id E0
  refine con_intro (plainFor_of_name pn_13) hEL (fun m => ef_aeI m _ _ _ _ _) ?_
  intro p e s m below meth c T W hnm
  refine g_aloadN W d47_0 (q := 1) rfl rfl rfl ?_
  refine g_aloadN W d47_1 (q := 2) rfl rfl rfl ?_
  refine g_special W (con_rtI l Z a0 E0 hkn hlt O P x ms) (argsL := [(.ref ms)]) (rest := []) rfl rfl rfl pd_18 rfl (own_w hw 173 rfl) (own_w hw 174 rfl) (own_w hw 176 rfl) (own_w hw 177 rfl) (by decide) d47_2 (q := 5) rfl rfl (Nat.le_of_ble_eq_true rfl) (Nat.le_of_ble_eq_true rfl) (Nat.le_of_ble_eq_true rfl) (Nat.le_of_ble_eq_true rfl) ?_
  rintro _ _ _ T ⟨rfl, rfl, rfl⟩ W
  refine g_aloadN W d47_5 (q := 6) rfl rfl rfl ?_
  refine g_iloadN W d47_6 (q := 7) rfl rfl ?_
  refine g_putF W (i := 0) (j := 1) rfl (shAM_ok hw) shAM_nd rfl rfl (own_w hw 227 rfl) (Or.inr ⟨(own_w hw 228 rfl), rfl, hnm⟩) (own_w hw 36 rfl) (ty := .int) (by decide) rfl rfl d47_7 (q := 10) rfl (vs' := [.ref ms, .int i, .null, .null]) rfl (O' := (x, ObjC Z "com/example/handover/handover/ApiError" shAM [.ref ms, .int i, .null, .null]) :: O) rfl fun T W => ?_
  refine g_aloadN W d47_10 (q := 11) rfl rfl rfl ?_
  refine g_aloadN W d47_11 (q := 12) rfl rfl rfl ?_
  refine g_putF W (i := 0) (j := 2) rfl (shAM_ok hw) shAM_nd rfl rfl (own_w hw 229 rfl) (Or.inr ⟨(own_w hw 230 rfl), rfl, hnm⟩) (own_w hw 36 rfl) (ty := (.object "java/lang/String")) (by decide) rfl rfl d47_12 (q := 15) rfl (vs' := [.ref ms, .int i, .ref t, .null]) rfl (O' := (x, ObjC Z "com/example/handover/handover/ApiError" shAM [.ref ms, .int i, .ref t, .null]) :: O) rfl fun T W => ?_
  refine g_aloadN W d47_15 (q := 16) rfl rfl rfl ?_
  refine g_aload W d47_16 (q := 18) rfl rfl rfl ?_
  refine g_putF W (i := 0) (j := 3) rfl (shAM_ok hw) shAM_nd rfl rfl (own_w hw 231 rfl) (Or.inr ⟨(own_w hw 232 rfl), rfl, hnm⟩) (own_w hw 36 rfl) (ty := (.object "java/lang/String")) (by decide) rfl rfl d47_18 (q := 21) rfl (vs' := [.ref ms, .int i, .ref t, .ref op]) rfl (O' := (x, ObjC Z "com/example/handover/handover/ApiError" shAM [.ref ms, .int i, .ref t, .ref op]) :: O) rfl fun T W => ?_
  exact g_retV W rfl d47_21 (Nat.le_of_ble_eq_true rfl) (Nat.le_of_ble_eq_true rfl) ⟨rfl, rfl, rfl⟩
theorem d48_0 : decode prog_1_method_16_code 0 = .ok (.aload_n 0, 1) := by decide +kernel
theorem d48_1 : decode prog_1_method_16_code 1 = .ok (.getfield 12, 3) := by decide +kernel
theorem d48_4 : decode prog_1_method_16_code 4 = .ok (.ireturn, 1) := by decide +kernel
theorem ef_gst (m : MethodId) (x : Addr) : entryFrame m #[(.ref x)] 1 = mkF m 0 #[.val (.ref x)] [] := by first | (simp [entryFrame, mkF, argsToLocals, Value.category]; done) | rfl
set_option maxRecDepth 65536 in
set_option maxHeartbeats 40000000 in
theorem con_gst {kn : Prop} (l : Launch) (Z : State) (a0 : Array Value) (E0 : Env0 Z a0) (O P : List Ent) (x t ms op : Addr) (i : Int32) :
    Con kn l Z EL0 (⟨"com/example/handover/handover/ApiError", "status", "()I"⟩ : MethodName) prog_1_method_16_code 1 (some .int) [] ({ frames := 0, cells := 0, slots := 0, locals := 0 } : Room) #[.ref x] ((x, ObjC Z "com/example/handover/handover/ApiError" shAM [.ref ms, .int i, .ref t, .ref op]) :: O) P (fun v0 O' P' => v0 = some (.int i) ∧ ((x, ObjC Z "com/example/handover/handover/ApiError" shAM [.ref ms, .int i, .ref t, .ref op]) :: O) = O' ∧ P = P') := by
  obtain ⟨hw, hs0, hEL, hS, ⟨cs0, hC0, hcs0⟩, ⟨fv, hFv, hfv⟩, hAD, hHI, hLO, hmore⟩ := id E0
  refine con_intro (plainFor_of_name pn_13) hEL (fun m => ef_gst m _) ?_
  intro p e s m below meth c T W hnm
  refine g_aloadN W d48_0 (q := 1) rfl rfl rfl ?_
  refine g_getF W (W.ow (i := 0) rfl) (i := 1) (v := .int i) rfl rfl (own_w hw 227 rfl) d48_1 (q := 4) rfl fun T W => ?_
  exact g_retI W rfl (Or.inl rfl) rfl d48_4 (Nat.le_of_ble_eq_true rfl) (Nat.le_of_ble_eq_true rfl) ⟨rfl, rfl, rfl⟩
theorem d49_0 : decode prog_1_method_17_code 0 = .ok (.aload_n 0, 1) := by decide +kernel
theorem d49_1 : decode prog_1_method_17_code 1 = .ok (.getfield 16, 3) := by decide +kernel
theorem d49_4 : decode prog_1_method_17_code 4 = .ok (.areturn, 1) := by decide +kernel
theorem ef_gty (m : MethodId) (x : Addr) : entryFrame m #[(.ref x)] 1 = mkF m 0 #[.val (.ref x)] [] := by first | (simp [entryFrame, mkF, argsToLocals, Value.category]; done) | rfl
set_option maxRecDepth 65536 in
set_option maxHeartbeats 40000000 in
theorem con_gty {kn : Prop} (l : Launch) (Z : State) (a0 : Array Value) (E0 : Env0 Z a0) (O P : List Ent) (x t ms op : Addr) (i : Int32) :
    Con kn l Z EL0 (⟨"com/example/handover/handover/ApiError", "type", "()Ljava/lang/String;"⟩ : MethodName) prog_1_method_17_code 1 (some (.object "java/lang/String")) [] ({ frames := 0, cells := 0, slots := 0, locals := 0 } : Room) #[.ref x] ((x, ObjC Z "com/example/handover/handover/ApiError" shAM [.ref ms, .int i, .ref t, .ref op]) :: O) P (fun v0 O' P' => v0 = some (.ref t) ∧ ((x, ObjC Z "com/example/handover/handover/ApiError" shAM [.ref ms, .int i, .ref t, .ref op]) :: O) = O' ∧ P = P') := by
  obtain ⟨hw, hs0, hEL, hS, ⟨cs0, hC0, hcs0⟩, ⟨fv, hFv, hfv⟩, hAD, hHI, hLO, hmore⟩ := id E0
  refine con_intro (plainFor_of_name pn_13) hEL (fun m => ef_gty m _) ?_
  intro p e s m below meth c T W hnm
  refine g_aloadN W d49_0 (q := 1) rfl rfl rfl ?_
  refine g_getF W (W.ow (i := 0) rfl) (i := 2) (v := .ref t) rfl rfl (own_w hw 229 rfl) d49_1 (q := 4) rfl fun T W => ?_
  exact g_retA W rfl rfl rfl d49_4 (Nat.le_of_ble_eq_true rfl) (Nat.le_of_ble_eq_true rfl) ⟨rfl, rfl, rfl⟩
theorem d50_0 : decode prog_1_method_18_code 0 = .ok (.aload_n 0, 1) := by decide +kernel
theorem d50_1 : decode prog_1_method_18_code 1 = .ok (.getfield 20, 3) := by decide +kernel
theorem d50_4 : decode prog_1_method_18_code 4 = .ok (.areturn, 1) := by decide +kernel
theorem ef_gop (m : MethodId) (x : Addr) : entryFrame m #[(.ref x)] 1 = mkF m 0 #[.val (.ref x)] [] := by first | (simp [entryFrame, mkF, argsToLocals, Value.category]; done) | rfl
set_option maxRecDepth 65536 in
set_option maxHeartbeats 40000000 in
theorem con_gop {kn : Prop} (l : Launch) (Z : State) (a0 : Array Value) (E0 : Env0 Z a0) (O P : List Ent) (x t ms op : Addr) (i : Int32) :
    Con kn l Z EL0 (⟨"com/example/handover/handover/ApiError", "operationId", "()Ljava/lang/String;"⟩ : MethodName) prog_1_method_18_code 1 (some (.object "java/lang/String")) [] ({ frames := 0, cells := 0, slots := 0, locals := 0 } : Room) #[.ref x] ((x, ObjC Z "com/example/handover/handover/ApiError" shAM [.ref ms, .int i, .ref t, .ref op]) :: O) P (fun v0 O' P' => v0 = some (.ref op) ∧ ((x, ObjC Z "com/example/handover/handover/ApiError" shAM [.ref ms, .int i, .ref t, .ref op]) :: O) = O' ∧ P = P') := by
  obtain ⟨hw, hs0, hEL, hS, ⟨cs0, hC0, hcs0⟩, ⟨fv, hFv, hfv⟩, hAD, hHI, hLO, hmore⟩ := id E0
  refine con_intro (plainFor_of_name pn_13) hEL (fun m => ef_gop m _) ?_
  intro p e s m below meth c T W hnm
  refine g_aloadN W d50_0 (q := 1) rfl rfl rfl ?_
  refine g_getF W (W.ow (i := 0) rfl) (i := 3) (v := .ref op) rfl rfl (own_w hw 231 rfl) d50_1 (q := 4) rfl fun T W => ?_
  exact g_retA W rfl rfl rfl d50_4 (Nat.le_of_ble_eq_true rfl) (Nat.le_of_ble_eq_true rfl) ⟨rfl, rfl, rfl⟩
theorem d51_0 : decode jdk_78_method_6_code 0 = .ok (.aload_n 0, 1) := by decide +kernel
theorem d51_1 : decode jdk_78_method_6_code 1 = .ok (.getfield 31, 3) := by decide +kernel
theorem d51_4 : decode jdk_78_method_6_code 4 = .ok (.areturn, 1) := by decide +kernel
theorem ef_gms (m : MethodId) (x : Addr) : entryFrame m #[(.ref x)] 1 = mkF m 0 #[.val (.ref x)] [] := by first | (simp [entryFrame, mkF, argsToLocals, Value.category]; done) | rfl
set_option maxRecDepth 65536 in
set_option maxHeartbeats 40000000 in
theorem con_gms {kn : Prop} (l : Launch) (Z : State) (a0 : Array Value) (E0 : Env0 Z a0) (O P : List Ent) (x t ms op : Addr) (i : Int32) :
    Con kn l Z EL0 (⟨"java/lang/Throwable", "getMessage", "()Ljava/lang/String;"⟩ : MethodName) jdk_78_method_6_code 1 (some (.object "java/lang/String")) [] ({ frames := 0, cells := 0, slots := 0, locals := 0 } : Room) #[.ref x] ((x, ObjC Z "com/example/handover/handover/ApiError" shAM [.ref ms, .int i, .ref t, .ref op]) :: O) P (fun v0 O' P' => v0 = some (.ref ms) ∧ ((x, ObjC Z "com/example/handover/handover/ApiError" shAM [.ref ms, .int i, .ref t, .ref op]) :: O) = O' ∧ P = P') := by
  obtain ⟨hw, hs0, hEL, hS, ⟨cs0, hC0, hcs0⟩, ⟨fv, hFv, hfv⟩, hAD, hHI, hLO, hmore⟩ := id E0
  refine con_intro (plainFor_of_name pn_10) hEL (fun m => ef_gms m _) ?_
  intro p e s m below meth c T W hnm
  refine g_aloadN W d51_0 (q := 1) rfl rfl rfl ?_
  refine g_getF W (W.ow (i := 0) rfl) (i := 0) (v := .ref ms) rfl rfl (own_w hw 226 rfl) d51_1 (q := 4) rfl fun T W => ?_
  exact g_retA W rfl rfl rfl d51_4 (Nat.le_of_ble_eq_true rfl) (Nat.le_of_ble_eq_true rfl) ⟨rfl, rfl, rfl⟩
theorem own_to {kn : Prop} {p : Program} {l : Launch} {e : Env} {R : Room} {s : State} {m : MethodId} {args : Array Value} {below : List Frame} {meth : Method} {c : Code} {bytes : ByteArray} {maxL : Nat} {ret : Option FieldType} {Z : State} {a0 : Array Value} {EL : List (String × Nat)} {own : String} {T : State} {O P : List Ent} {k n : Nat} {x : Ent} {P' : List Ent} (h : x ∈ P) (W : Wk kn p l e R s m args below meth c bytes maxL ret Z a0 EL own T O P' k n) (hs : ∀ y ∈ P, y ∈ P') : x ∈ P' := hs x h
theorem own_mem {kn : Prop} {p : Program} {l : Launch} {e : Env} {R : Room} {s : State} {m : MethodId} {args : Array Value} {below : List Frame} {meth : Method} {c : Code} {bytes : ByteArray} {maxL : Nat} {ret : Option FieldType} {Z : State} {a0 : Array Value} {EL : List (String × Nat)} {own : String} {T : State} {O P : List Ent} {k n : Nat} {x : Ent} (W : Wk kn p l e R s m args below meth c bytes maxL ret Z a0 EL own T O P k n) (h : x ∈ P) : x ∈ P := h
theorem own_app255 {cs ds : List Int32} (h1 : ∀ d ∈ cs, 0 ≤ d.toInt ∧ d.toInt ≤ 255) (h2 : ∀ d ∈ ds, 0 ≤ d.toInt ∧ d.toInt ≤ 255) : ∀ d ∈ cs ++ ds, 0 ≤ d.toInt ∧ d.toInt ≤ 255 := fun d hd => (List.mem_append.mp hd).elim (h1 d) (h2 d)
theorem own_latMem {cs : List Int32} : Lat cs ↔ ∀ d ∈ cs, ¬ (255 : Int32) < d := ⟨fun h d hd => by obtain ⟨j, hj⟩ := List.mem_iff_getElem?.mp hd; exact h j d hj, fun h j d hj => h d (List.mem_of_getElem? hj)⟩
theorem own_lapp {a b : List Int32} (h1 : Lat a) (h2 : Lat b) : Lat (a ++ b) := own_latMem.mpr fun d hd => (List.mem_append.mp hd).elim (own_latMem.mp h1 d) (own_latMem.mp h2 d)
theorem own_lappL {a b : List Int32} (h : Lat (a ++ b)) : Lat a := own_latMem.mpr fun d hd => own_latMem.mp h d (List.mem_append_left _ hd)
theorem own_lappR {a b : List Int32} (h : Lat (a ++ b)) : Lat b := own_latMem.mpr fun d hd => own_latMem.mp h d (List.mem_append_right _ hd)
theorem own_latR {cs : List Int32} (h : Lat cs) (hr : ∀ d ∈ cs, 0 ≤ d.toInt ∧ d.toInt < 65536) : ∀ d ∈ cs, 0 ≤ d.toInt ∧ d.toInt ≤ 255 := fun d hd => ⟨(hr d hd).1, own_lat255 (own_latMem.mp h d hd)⟩
theorem own_c16 (x : Int32) : ∃ c : Int32, (0 ≤ c.toInt ∧ c.toInt < 65536) ∧ (x &&& (65535 : Int32)).toUInt32.toUInt16.toUInt32.toInt32 = c := by
  have h1 := c_i2c (x &&& (65535 : Int32))
  exact ⟨_, ⟨h1.2.1, h1.2.2⟩, rfl⟩
theorem d52_0 : decode prog_1_method_11_code 0 = .ok (.new 2, 3) := by decide +kernel
theorem d52_3 : decode prog_1_method_11_code 3 = .ok (.dup, 1) := by decide +kernel
theorem d52_4 : decode prog_1_method_11_code 4 = .ok (.sipush 409, 3) := by decide +kernel
theorem d52_7 : decode prog_1_method_11_code 7 = .ok (.ldc 73, 2) := by decide +kernel
theorem d52_9 : decode prog_1_method_11_code 9 = .ok (.new 46, 3) := by decide +kernel
theorem d52_12 : decode prog_1_method_11_code 12 = .ok (.dup, 1) := by decide +kernel
theorem d52_13 : decode prog_1_method_11_code 13 = .ok (.invokespecial 48, 3) := by decide +kernel
theorem d52_16 : decode prog_1_method_11_code 16 = .ok (.ldc 67, 2) := by decide +kernel
theorem d52_18 : decode prog_1_method_11_code 18 = .ok (.invokevirtual 53, 3) := by decide +kernel
theorem d52_21 : decode prog_1_method_11_code 21 = .ok (.aload_n 0, 1) := by decide +kernel
theorem d52_22 : decode prog_1_method_11_code 22 = .ok (.invokevirtual 53, 3) := by decide +kernel
theorem d52_25 : decode prog_1_method_11_code 25 = .ok (.ldc 75, 2) := by decide +kernel
theorem d52_27 : decode prog_1_method_11_code 27 = .ok (.invokevirtual 53, 3) := by decide +kernel
theorem d52_30 : decode prog_1_method_11_code 30 = .ok (.aload_n 1, 1) := by decide +kernel
theorem d52_31 : decode prog_1_method_11_code 31 = .ok (.invokevirtual 53, 3) := by decide +kernel
theorem d52_34 : decode prog_1_method_11_code 34 = .ok (.ldc 57, 2) := by decide +kernel
theorem d52_36 : decode prog_1_method_11_code 36 = .ok (.invokevirtual 53, 3) := by decide +kernel
theorem d52_39 : decode prog_1_method_11_code 39 = .ok (.invokevirtual 59, 3) := by decide +kernel
theorem d52_42 : decode prog_1_method_11_code 42 = .ok (.aload_n 0, 1) := by decide +kernel
theorem d52_43 : decode prog_1_method_11_code 43 = .ok (.invokespecial 1, 3) := by decide +kernel
theorem d52_46 : decode prog_1_method_11_code 46 = .ok (.areturn, 1) := by decide +kernel
theorem ef_onr (m : MethodId) (a : Addr) (b : Addr) : entryFrame m #[(.ref a), (.ref b)] 2 = mkF m 0 #[.val (.ref a), .val (.ref b)] [] := by first | (simp [entryFrame, mkF, argsToLocals, Value.category]; done) | rfl
theorem pd_30 : parseMethodDescriptor "(Ljava/lang/String;)Ljava/lang/StringBuilder;" = some ⟨[(.object "java/lang/String")], (some (.object "java/lang/StringBuilder"))⟩ := by decide +kernel
theorem pd_31 : parseMethodDescriptor "()Ljava/lang/String;" = some ⟨[], (some (.object "java/lang/String"))⟩ := by decide +kernel
theorem pd_32 : parseMethodDescriptor "(ILjava/lang/String;Ljava/lang/String;Ljava/lang/String;)V" = some ⟨[.int, (.object "java/lang/String"), (.object "java/lang/String"), (.object "java/lang/String")], none⟩ := by decide +kernel
set_option maxRecDepth 65536 in
set_option maxHeartbeats 40000000 in
theorem con_onr00 {kn : Prop} (l : Launch) (Z : State) (a0 : Array Value) (E0 : Env0 Z a0) (hkn : kn) (hlt : l.stackTraces = true) (O P : List Ent) (a ba b bb : Addr) (ids sts : List Int32) (hids : ids.length = 2) (hsts : sts.length = 2) (ha1 : (a, ObjC Z "java/lang/String" shStr [.ref ba, .int (0 : Int32)]) ∈ P) (ha2 : (ba, ArrC Z .byte (enc ids)) ∈ P) (hb1 : (b, ObjC Z "java/lang/String" shStr [.ref bb, .int (0 : Int32)]) ∈ P) (hb2 : (bb, ArrC Z .byte (enc sts)) ∈ P) (hlA : ∀ d ∈ ids, 0 ≤ d.toInt ∧ d.toInt ≤ 255) (hlB : ∀ d ∈ sts, 0 ≤ d.toInt ∧ d.toInt ≤ 255) :
    Con kn l Z EL0 (⟨"com/example/handover/handover/ApiError", "operationNotRunning", "(Ljava/lang/String;Ljava/lang/String;)Lcom/example/handover/handover/ApiError;"⟩ : MethodName) prog_1_method_11_code 2 (some (.object "com/example/handover/handover/ApiError")) [] ({ frames := 10, cells := 26, slots := 6000, locals := 165 } : Room) #[.ref a, .ref b] O P (fun v0 O' P' => ∃ x t ms bt bm, v0 = some (.ref x) ∧ O' = (x, ObjC Z "com/example/handover/handover/ApiError" shAM [.ref ms, .int (409 : Int32), .ref t, .ref a]) :: O ∧ (∀ y ∈ P, y ∈ P') ∧ (t, ObjC Z "java/lang/String" shStr [.ref bt, .int (0 : Int32)]) ∈ P' ∧ (bt, ArrC Z .byte (enc [(111 : Int32), (112 : Int32), (101 : Int32), (114 : Int32), (97 : Int32), (116 : Int32), (105 : Int32), (111 : Int32), (110 : Int32), (95 : Int32), (110 : Int32), (111 : Int32), (116 : Int32), (95 : Int32), (114 : Int32), (117 : Int32), (110 : Int32), (110 : Int32), (105 : Int32), (110 : Int32), (103 : Int32)])) ∈ P' ∧ (ms, ObjC Z "java/lang/String" shStr [.ref bm, .int (0 : Int32)]) ∈ P' ∧ (bm, ArrC Z .byte (enc ((((([] ++ [(111 : Int32), (112 : Int32), (101 : Int32), (114 : Int32), (97 : Int32), (116 : Int32), (105 : Int32), (111 : Int32), (110 : Int32), (32 : Int32), (91 : Int32)]) ++ ids) ++ [(93 : Int32), (32 : Int32), (105 : Int32), (115 : Int32), (32 : Int32), (110 : Int32), (111 : Int32), (116 : Int32), (32 : Int32), (114 : Int32), (117 : Int32), (110 : Int32), (110 : Int32), (105 : Int32), (110 : Int32), (103 : Int32), (58 : Int32), (32 : Int32), (105 : Int32), (116 : Int32), (32 : Int32), (105 : Int32), (115 : Int32), (32 : Int32), (91 : Int32)]) ++ sts) ++ [(93 : Int32)]))) ∈ P') := by
  obtain ⟨hw, hs0, hEL, hS, ⟨cs0, hC0, hcs0⟩, ⟨fv, hFv, hfv⟩, hAD, hHI, hLO, hmore⟩ := id E0
  refine con_intro (plainFor_of_name pn_13) hEL (fun m => ef_onr m _ _) ?_
  intro p e s m below meth c T W hnm
  refine g_newU W (shT8_ok hw) shT8_ds (own_w hw 35 rfl) (own_w hw 36 rfl) (own_w hw 33 rfl) d52_0 (q := 3) rfl (Nat.le_of_ble_eq_true rfl) (Nat.le_of_ble_eq_true rfl) fun xe T W => ?_
  refine g_dup W d52_3 (q := 4) rfl rfl ?_
  refine g_sipush W (v := (409 : Int32)) d52_4 (q := 7) rfl rfl ?_
  refine g_ldcH W (vs := enc [(111 : Int32), (112 : Int32), (101 : Int32), (114 : Int32), (97 : Int32), (116 : Int32), (105 : Int32), (111 : Int32), (110 : Int32), (95 : Int32), (110 : Int32), (111 : Int32), (116 : Int32), (95 : Int32), (114 : Int32), (117 : Int32), (110 : Int32), (110 : Int32), (105 : Int32), (110 : Int32), (103 : Int32)]) (own_w hw 37 rfl) hS (by decide +kernel) lit_37 (by decide) enc_fits d52_7 (q := 9) rfl (nn := 84) (by decide +kernel) (Nat.le_of_ble_eq_true rfl) (Nat.le_of_ble_eq_true rfl) (Nat.le_of_ble_eq_true rfl) fun t bt T W => ?_
  have ha1 := own_to ha1 W (fun y hy => .tail _ (.tail _ hy))
  have ha2 := own_to ha2 W (fun y hy => .tail _ (.tail _ hy))
  have hb1 := own_to hb1 W (fun y hy => .tail _ (.tail _ hy))
  have hb2 := own_to hb2 W (fun y hy => .tail _ (.tail _ hy))
  have ht1 := own_mem (x := (t, ObjC Z "java/lang/String" shStr [.ref bt, .int (0 : Int32)])) W (.head _)
  have ht2 := own_mem (x := (bt, ArrC Z .byte (enc [(111 : Int32), (112 : Int32), (101 : Int32), (114 : Int32), (97 : Int32), (116 : Int32), (105 : Int32), (111 : Int32), (110 : Int32), (95 : Int32), (110 : Int32), (111 : Int32), (116 : Int32), (95 : Int32), (114 : Int32), (117 : Int32), (110 : Int32), (110 : Int32), (105 : Int32), (110 : Int32), (103 : Int32)]))) W (.tail _ (.head _))
  refine g_new W (shSB_ok hw) shSB_ds (own_w hw 40 rfl) (own_w hw 41 rfl) (own_w hw 42 rfl) d52_9 (q := 12) rfl (Nat.le_of_ble_eq_true rfl) (Nat.le_of_ble_eq_true rfl) fun sb T W => ?_
  refine g_dup W d52_12 (q := 13) rfl rfl ?_
  refine g_special W (con_sb0 l Z a0 E0 _ _ sb) (argsL := []) (rest := [(.ref sb), (.ref t), (.int (409 : Int32)), (.ref xe), (.ref xe)]) rfl rfl rfl pd_17 rfl (own_w hw 43 rfl) (own_w hw 44 rfl) (own_w hw 42 rfl) (own_w hw 45 rfl) (by decide) d52_13 (q := 16) rfl rfl (Nat.le_of_ble_eq_true rfl) (Nat.le_of_ble_eq_true rfl) (Nat.le_of_ble_eq_true rfl) (Nat.le_of_ble_eq_true rfl) ?_
  rintro _ _ _ T ⟨v0, rfl, rfl, rfl⟩ W
  refine g_ldcH W (vs := enc [(111 : Int32), (112 : Int32), (101 : Int32), (114 : Int32), (97 : Int32), (116 : Int32), (105 : Int32), (111 : Int32), (110 : Int32), (32 : Int32), (91 : Int32)]) (own_w hw 58 rfl) hS (by decide +kernel) lit_58 (by decide) enc_fits d52_16 (q := 18) rfl (nn := 44) (by decide +kernel) (Nat.le_of_ble_eq_true rfl) (Nat.le_of_ble_eq_true rfl) (Nat.le_of_ble_eq_true rfl) fun q0 bq0 T W => ?_
  have ha1 := own_to ha1 W (fun y hy => .tail _ (.tail _ hy))
  have ha2 := own_to ha2 W (fun y hy => .tail _ (.tail _ hy))
  have hb1 := own_to hb1 W (fun y hy => .tail _ (.tail _ hy))
  have hb2 := own_to hb2 W (fun y hy => .tail _ (.tail _ hy))
  have ht1 := own_to ht1 W (fun y hy => .tail _ (.tail _ hy))
  have ht2 := own_to ht2 W (fun y hy => .tail _ (.tail _ hy))
  have hq01 := own_mem (x := (q0, ObjC Z "java/lang/String" shStr [.ref bq0, .int (0 : Int32)])) W (.head _)
  have hq02 := own_mem (x := (bq0, ArrC Z .byte (enc [(111 : Int32), (112 : Int32), (101 : Int32), (114 : Int32), (97 : Int32), (116 : Int32), (105 : Int32), (111 : Int32), (110 : Int32), (32 : Int32), (91 : Int32)]))) W (.tail _ (.head _))
  refine g_virtual W (con_app00 l Z a0 E0 _ _ sb v0 ([] : List Int32) (List.replicate 16 (.int 0)) q0 bq0 [(111 : Int32), (112 : Int32), (101 : Int32), (114 : Int32), (97 : Int32), (116 : Int32), (105 : Int32), (111 : Int32), (110 : Int32), (32 : Int32), (91 : Int32)] hq01 hq02 (by decide) 0 11 16 16 160 rfl rfl rfl (by decide) (by decide) (by decide)) (own_ex (W.ow (i := 1) rfl) fun _ h => h.1) (argsL := [(.ref q0)]) (rest := [(.ref t), (.int (409 : Int32)), (.ref xe), (.ref xe)]) rfl rfl pd_30 rfl (own_w hw 59 rfl) (own_w hw 60 rfl) (own_w hw 62 rfl) (own_w hw 61 rfl) (own_w hw 42 rfl) (own_w hw 63 rfl) (by decide) d52_18 (q := 21) rfl rfl (Nat.le_of_ble_eq_true rfl) (Nat.le_of_ble_eq_true rfl) (Nat.le_of_ble_eq_true rfl) (Nat.le_of_ble_eq_true rfl) ?_
  rintro _ _ _ T ⟨v1, r1, rfl, rfl, rfl, hl1, hc1⟩ W
  refine g_aloadN W d52_21 (q := 22) rfl rfl rfl ?_
  refine g_virtual W (con_app00 l Z a0 E0 _ _ sb v1 (([] : List Int32) ++ [(111 : Int32), (112 : Int32), (101 : Int32), (114 : Int32), (97 : Int32), (116 : Int32), (105 : Int32), (111 : Int32), (110 : Int32), (32 : Int32), (91 : Int32)]) r1 a ba ids ha1 ha2 hlA 11 2 16 16 160 hl1 hids hc1 (by decide) (by decide) (by decide)) (own_ex (W.ow (i := 1) rfl) fun _ h => h.1) (argsL := [(.ref a)]) (rest := [(.ref t), (.int (409 : Int32)), (.ref xe), (.ref xe)]) rfl rfl pd_30 rfl (own_w hw 59 rfl) (own_w hw 60 rfl) (own_w hw 62 rfl) (own_w hw 61 rfl) (own_w hw 42 rfl) (own_w hw 63 rfl) (by decide) d52_22 (q := 25) rfl rfl (Nat.le_of_ble_eq_true rfl) (Nat.le_of_ble_eq_true rfl) (Nat.le_of_ble_eq_true rfl) (Nat.le_of_ble_eq_true rfl) ?_
  rintro _ _ _ T ⟨v2, r2, rfl, rfl, rfl, hl2, hc2⟩ W
  refine g_ldcH W (vs := enc [(93 : Int32), (32 : Int32), (105 : Int32), (115 : Int32), (32 : Int32), (110 : Int32), (111 : Int32), (116 : Int32), (32 : Int32), (114 : Int32), (117 : Int32), (110 : Int32), (110 : Int32), (105 : Int32), (110 : Int32), (103 : Int32), (58 : Int32), (32 : Int32), (105 : Int32), (116 : Int32), (32 : Int32), (105 : Int32), (115 : Int32), (32 : Int32), (91 : Int32)]) (own_w hw 106 rfl) hS (by decide +kernel) lit_106 (by decide) enc_fits d52_25 (q := 27) rfl (nn := 100) (by decide +kernel) (Nat.le_of_ble_eq_true rfl) (Nat.le_of_ble_eq_true rfl) (Nat.le_of_ble_eq_true rfl) fun q2 bq2 T W => ?_
  have ha1 := own_to ha1 W (fun y hy => .tail _ (.tail _ hy))
  have ha2 := own_to ha2 W (fun y hy => .tail _ (.tail _ hy))
  have hb1 := own_to hb1 W (fun y hy => .tail _ (.tail _ hy))
  have hb2 := own_to hb2 W (fun y hy => .tail _ (.tail _ hy))
  have ht1 := own_to ht1 W (fun y hy => .tail _ (.tail _ hy))
  have ht2 := own_to ht2 W (fun y hy => .tail _ (.tail _ hy))
  have hq01 := own_to hq01 W (fun y hy => .tail _ (.tail _ hy))
  have hq02 := own_to hq02 W (fun y hy => .tail _ (.tail _ hy))
  have hq21 := own_mem (x := (q2, ObjC Z "java/lang/String" shStr [.ref bq2, .int (0 : Int32)])) W (.head _)
  have hq22 := own_mem (x := (bq2, ArrC Z .byte (enc [(93 : Int32), (32 : Int32), (105 : Int32), (115 : Int32), (32 : Int32), (110 : Int32), (111 : Int32), (116 : Int32), (32 : Int32), (114 : Int32), (117 : Int32), (110 : Int32), (110 : Int32), (105 : Int32), (110 : Int32), (103 : Int32), (58 : Int32), (32 : Int32), (105 : Int32), (116 : Int32), (32 : Int32), (105 : Int32), (115 : Int32), (32 : Int32), (91 : Int32)]))) W (.tail _ (.head _))
  refine g_virtual W (con_app00 l Z a0 E0 _ _ sb v2 ((([] : List Int32) ++ [(111 : Int32), (112 : Int32), (101 : Int32), (114 : Int32), (97 : Int32), (116 : Int32), (105 : Int32), (111 : Int32), (110 : Int32), (32 : Int32), (91 : Int32)]) ++ ids) r2 q2 bq2 [(93 : Int32), (32 : Int32), (105 : Int32), (115 : Int32), (32 : Int32), (110 : Int32), (111 : Int32), (116 : Int32), (32 : Int32), (114 : Int32), (117 : Int32), (110 : Int32), (110 : Int32), (105 : Int32), (110 : Int32), (103 : Int32), (58 : Int32), (32 : Int32), (105 : Int32), (116 : Int32), (32 : Int32), (105 : Int32), (115 : Int32), (32 : Int32), (91 : Int32)] hq21 hq22 (by decide) 13 25 16 38 160 hl2 rfl hc2 (by decide) (by decide) (by decide)) (own_ex (W.ow (i := 1) rfl) fun _ h => h.1) (argsL := [(.ref q2)]) (rest := [(.ref t), (.int (409 : Int32)), (.ref xe), (.ref xe)]) rfl rfl pd_30 rfl (own_w hw 59 rfl) (own_w hw 60 rfl) (own_w hw 62 rfl) (own_w hw 61 rfl) (own_w hw 42 rfl) (own_w hw 63 rfl) (by decide) d52_27 (q := 30) rfl rfl (Nat.le_of_ble_eq_true rfl) (Nat.le_of_ble_eq_true rfl) (Nat.le_of_ble_eq_true rfl) (Nat.le_of_ble_eq_true rfl) ?_
  rintro _ _ _ T ⟨v3, r3, rfl, rfl, rfl, hl3, hc3⟩ W
  refine g_aloadN W d52_30 (q := 31) rfl rfl rfl ?_
  refine g_virtual W (con_app00 l Z a0 E0 _ _ sb v3 (((([] : List Int32) ++ [(111 : Int32), (112 : Int32), (101 : Int32), (114 : Int32), (97 : Int32), (116 : Int32), (105 : Int32), (111 : Int32), (110 : Int32), (32 : Int32), (91 : Int32)]) ++ ids) ++ [(93 : Int32), (32 : Int32), (105 : Int32), (115 : Int32), (32 : Int32), (110 : Int32), (111 : Int32), (116 : Int32), (32 : Int32), (114 : Int32), (117 : Int32), (110 : Int32), (110 : Int32), (105 : Int32), (110 : Int32), (103 : Int32), (58 : Int32), (32 : Int32), (105 : Int32), (116 : Int32), (32 : Int32), (105 : Int32), (115 : Int32), (32 : Int32), (91 : Int32)]) r3 b bb sts hb1 hb2 hlB 38 2 38 78 160 hl3 hsts hc3 (by decide) (by decide) (by decide)) (own_ex (W.ow (i := 1) rfl) fun _ h => h.1) (argsL := [(.ref b)]) (rest := [(.ref t), (.int (409 : Int32)), (.ref xe), (.ref xe)]) rfl rfl pd_30 rfl (own_w hw 59 rfl) (own_w hw 60 rfl) (own_w hw 62 rfl) (own_w hw 61 rfl) (own_w hw 42 rfl) (own_w hw 63 rfl) (by decide) d52_31 (q := 34) rfl rfl (Nat.le_of_ble_eq_true rfl) (Nat.le_of_ble_eq_true rfl) (Nat.le_of_ble_eq_true rfl) (Nat.le_of_ble_eq_true rfl) ?_
  rintro _ _ _ T ⟨v4, r4, rfl, rfl, rfl, hl4, hc4⟩ W
  refine g_ldcH W (vs := enc [(93 : Int32)]) (own_w hw 130 rfl) hS (by decide +kernel) lit_130 (by decide) enc_fits d52_34 (q := 36) rfl (nn := 4) (by decide +kernel) (Nat.le_of_ble_eq_true rfl) (Nat.le_of_ble_eq_true rfl) (Nat.le_of_ble_eq_true rfl) fun q4 bq4 T W => ?_
  have ha1 := own_to ha1 W (fun y hy => .tail _ (.tail _ hy))
  have ha2 := own_to ha2 W (fun y hy => .tail _ (.tail _ hy))
  have hb1 := own_to hb1 W (fun y hy => .tail _ (.tail _ hy))
  have hb2 := own_to hb2 W (fun y hy => .tail _ (.tail _ hy))
  have ht1 := own_to ht1 W (fun y hy => .tail _ (.tail _ hy))
  have ht2 := own_to ht2 W (fun y hy => .tail _ (.tail _ hy))
  have hq01 := own_to hq01 W (fun y hy => .tail _ (.tail _ hy))
  have hq02 := own_to hq02 W (fun y hy => .tail _ (.tail _ hy))
  have hq21 := own_to hq21 W (fun y hy => .tail _ (.tail _ hy))
  have hq22 := own_to hq22 W (fun y hy => .tail _ (.tail _ hy))
  have hq41 := own_mem (x := (q4, ObjC Z "java/lang/String" shStr [.ref bq4, .int (0 : Int32)])) W (.head _)
  have hq42 := own_mem (x := (bq4, ArrC Z .byte (enc [(93 : Int32)]))) W (.tail _ (.head _))
  refine g_virtual W (con_app00 l Z a0 E0 _ _ sb v4 ((((([] : List Int32) ++ [(111 : Int32), (112 : Int32), (101 : Int32), (114 : Int32), (97 : Int32), (116 : Int32), (105 : Int32), (111 : Int32), (110 : Int32), (32 : Int32), (91 : Int32)]) ++ ids) ++ [(93 : Int32), (32 : Int32), (105 : Int32), (115 : Int32), (32 : Int32), (110 : Int32), (111 : Int32), (116 : Int32), (32 : Int32), (114 : Int32), (117 : Int32), (110 : Int32), (110 : Int32), (105 : Int32), (110 : Int32), (103 : Int32), (58 : Int32), (32 : Int32), (105 : Int32), (116 : Int32), (32 : Int32), (105 : Int32), (115 : Int32), (32 : Int32), (91 : Int32)]) ++ sts) r4 q4 bq4 [(93 : Int32)] hq41 hq42 (by decide) 40 1 78 78 160 hl4 rfl hc4 (by decide) (by decide) (by decide)) (own_ex (W.ow (i := 1) rfl) fun _ h => h.1) (argsL := [(.ref q4)]) (rest := [(.ref t), (.int (409 : Int32)), (.ref xe), (.ref xe)]) rfl rfl pd_30 rfl (own_w hw 59 rfl) (own_w hw 60 rfl) (own_w hw 62 rfl) (own_w hw 61 rfl) (own_w hw 42 rfl) (own_w hw 63 rfl) (by decide) d52_36 (q := 39) rfl rfl (Nat.le_of_ble_eq_true rfl) (Nat.le_of_ble_eq_true rfl) (Nat.le_of_ble_eq_true rfl) (Nat.le_of_ble_eq_true rfl) ?_
  rintro _ _ _ T ⟨v5, r5, rfl, rfl, rfl, hl5, hc5⟩ W
  refine g_virtual W (con_tos0 l Z a0 E0 _ _ sb v5 (((((([] : List Int32) ++ [(111 : Int32), (112 : Int32), (101 : Int32), (114 : Int32), (97 : Int32), (116 : Int32), (105 : Int32), (111 : Int32), (110 : Int32), (32 : Int32), (91 : Int32)]) ++ ids) ++ [(93 : Int32), (32 : Int32), (105 : Int32), (115 : Int32), (32 : Int32), (110 : Int32), (111 : Int32), (116 : Int32), (32 : Int32), (114 : Int32), (117 : Int32), (110 : Int32), (110 : Int32), (105 : Int32), (110 : Int32), (103 : Int32), (58 : Int32), (32 : Int32), (105 : Int32), (116 : Int32), (32 : Int32), (105 : Int32), (115 : Int32), (32 : Int32), (91 : Int32)]) ++ sts) ++ [(93 : Int32)]) r5 160 (by omega) (by omega) (by omega) (by decide)) (own_ex (W.ow (i := 1) rfl) fun _ h => h.1) (argsL := []) (rest := [(.ref t), (.int (409 : Int32)), (.ref xe), (.ref xe)]) rfl rfl pd_31 rfl (own_w hw 131 rfl) (own_w hw 132 rfl) (own_w hw 134 rfl) (own_w hw 133 rfl) (own_w hw 42 rfl) (own_w hw 135 rfl) (by decide) d52_39 (q := 42) rfl rfl (Nat.le_of_ble_eq_true rfl) (Nat.le_of_ble_eq_true rfl) (Nat.le_of_ble_eq_true rfl) (Nat.le_of_ble_eq_true rfl) ?_
  rintro _ _ _ T ⟨ms, rfl, rfl, hsub, bm, hm1, hm2⟩ W
  have ha1 := own_to ha1 W (hsub)
  have ha2 := own_to ha2 W (hsub)
  have hb1 := own_to hb1 W (hsub)
  have hb2 := own_to hb2 W (hsub)
  have ht1 := own_to ht1 W (hsub)
  have ht2 := own_to ht2 W (hsub)
  have hq01 := own_to hq01 W (hsub)
  have hq02 := own_to hq02 W (hsub)
  have hq21 := own_to hq21 W (hsub)
  have hq22 := own_to hq22 W (hsub)
  have hq41 := own_to hq41 W (hsub)
  have hq42 := own_to hq42 W (hsub)
  refine g_aloadN W d52_42 (q := 43) rfl rfl rfl ?_
  have W := W.drop 0
  have W := W.drop 0
  refine g_special W (con_aeI l Z a0 E0 hkn hlt O _ xe t ms a _) (argsL := [(.int (409 : Int32)), (.ref t), (.ref ms), (.ref a)]) (rest := [(.ref xe)]) rfl rfl rfl pd_32 rfl (own_w hw 170 rfl) (own_w hw 171 rfl) (own_w hw 33 rfl) (own_w hw 172 rfl) (by decide) d52_43 (q := 46) rfl rfl (Nat.le_of_ble_eq_true rfl) (Nat.le_of_ble_eq_true rfl) (Nat.le_of_ble_eq_true rfl) (Nat.le_of_ble_eq_true rfl) ?_
  rintro _ _ _ T ⟨rfl, rfl, rfl⟩ W
  exact g_retA W rfl rfl rfl d52_46 (Nat.le_of_ble_eq_true rfl) (Nat.le_of_ble_eq_true rfl) ⟨xe, t, ms, bt, bm, rfl, rfl, fun y hy => hsub _ (.tail _ (.tail _ (.tail _ (.tail _ (.tail _ (.tail _ (.tail _ (.tail _ (hy))))))))), ht1, ht2, hm1, hm2⟩
set_option maxRecDepth 65536 in
set_option maxHeartbeats 40000000 in
theorem con_onr01 {kn : Prop} (l : Launch) (Z : State) (a0 : Array Value) (E0 : Env0 Z a0) (hkn : kn) (hlt : l.stackTraces = true) (O P : List Ent) (a ba b bb : Addr) (ids sts : List Int32) (hids : ids.length = 2) (hsts : sts.length = 2) (ha1 : (a, ObjC Z "java/lang/String" shStr [.ref ba, .int (0 : Int32)]) ∈ P) (ha2 : (ba, ArrC Z .byte (enc ids)) ∈ P) (hb1 : (b, ObjC Z "java/lang/String" shStr [.ref bb, .int (1 : Int32)]) ∈ P) (hb2 : (bb, ArrC Z .byte (enc16 sts)) ∈ P) (hlA : ∀ d ∈ ids, 0 ≤ d.toInt ∧ d.toInt ≤ 255) :
    Con kn l Z EL0 (⟨"com/example/handover/handover/ApiError", "operationNotRunning", "(Ljava/lang/String;Ljava/lang/String;)Lcom/example/handover/handover/ApiError;"⟩ : MethodName) prog_1_method_11_code 2 (some (.object "com/example/handover/handover/ApiError")) [] ({ frames := 10, cells := 26, slots := 6000, locals := 165 } : Room) #[.ref a, .ref b] O P (fun v0 O' P' => ∃ x t ms bt bm, v0 = some (.ref x) ∧ O' = (x, ObjC Z "com/example/handover/handover/ApiError" shAM [.ref ms, .int (409 : Int32), .ref t, .ref a]) :: O ∧ (∀ y ∈ P, y ∈ P') ∧ (t, ObjC Z "java/lang/String" shStr [.ref bt, .int (0 : Int32)]) ∈ P' ∧ (bt, ArrC Z .byte (enc [(111 : Int32), (112 : Int32), (101 : Int32), (114 : Int32), (97 : Int32), (116 : Int32), (105 : Int32), (111 : Int32), (110 : Int32), (95 : Int32), (110 : Int32), (111 : Int32), (116 : Int32), (95 : Int32), (114 : Int32), (117 : Int32), (110 : Int32), (110 : Int32), (105 : Int32), (110 : Int32), (103 : Int32)])) ∈ P' ∧ (ms, ObjC Z "java/lang/String" shStr [.ref bm, .int (1 : Int32)]) ∈ P' ∧ (bm, ArrC Z .byte (enc16 ((((([] ++ [(111 : Int32), (112 : Int32), (101 : Int32), (114 : Int32), (97 : Int32), (116 : Int32), (105 : Int32), (111 : Int32), (110 : Int32), (32 : Int32), (91 : Int32)]) ++ ids) ++ [(93 : Int32), (32 : Int32), (105 : Int32), (115 : Int32), (32 : Int32), (110 : Int32), (111 : Int32), (116 : Int32), (32 : Int32), (114 : Int32), (117 : Int32), (110 : Int32), (110 : Int32), (105 : Int32), (110 : Int32), (103 : Int32), (58 : Int32), (32 : Int32), (105 : Int32), (116 : Int32), (32 : Int32), (105 : Int32), (115 : Int32), (32 : Int32), (91 : Int32)]) ++ sts) ++ [(93 : Int32)]))) ∈ P') := by
  obtain ⟨hw, hs0, hEL, hS, ⟨cs0, hC0, hcs0⟩, ⟨fv, hFv, hfv⟩, hAD, hHI, hLO, hmore⟩ := id E0
  refine con_intro (plainFor_of_name pn_13) hEL (fun m => ef_onr m _ _) ?_
  intro p e s m below meth c T W hnm
  refine g_newU W (shT8_ok hw) shT8_ds (own_w hw 35 rfl) (own_w hw 36 rfl) (own_w hw 33 rfl) d52_0 (q := 3) rfl (Nat.le_of_ble_eq_true rfl) (Nat.le_of_ble_eq_true rfl) fun xe T W => ?_
  refine g_dup W d52_3 (q := 4) rfl rfl ?_
  refine g_sipush W (v := (409 : Int32)) d52_4 (q := 7) rfl rfl ?_
  refine g_ldcH W (vs := enc [(111 : Int32), (112 : Int32), (101 : Int32), (114 : Int32), (97 : Int32), (116 : Int32), (105 : Int32), (111 : Int32), (110 : Int32), (95 : Int32), (110 : Int32), (111 : Int32), (116 : Int32), (95 : Int32), (114 : Int32), (117 : Int32), (110 : Int32), (110 : Int32), (105 : Int32), (110 : Int32), (103 : Int32)]) (own_w hw 37 rfl) hS (by decide +kernel) lit_37 (by decide) enc_fits d52_7 (q := 9) rfl (nn := 84) (by decide +kernel) (Nat.le_of_ble_eq_true rfl) (Nat.le_of_ble_eq_true rfl) (Nat.le_of_ble_eq_true rfl) fun t bt T W => ?_
  have ha1 := own_to ha1 W (fun y hy => .tail _ (.tail _ hy))
  have ha2 := own_to ha2 W (fun y hy => .tail _ (.tail _ hy))
  have hb1 := own_to hb1 W (fun y hy => .tail _ (.tail _ hy))
  have hb2 := own_to hb2 W (fun y hy => .tail _ (.tail _ hy))
  have ht1 := own_mem (x := (t, ObjC Z "java/lang/String" shStr [.ref bt, .int (0 : Int32)])) W (.head _)
  have ht2 := own_mem (x := (bt, ArrC Z .byte (enc [(111 : Int32), (112 : Int32), (101 : Int32), (114 : Int32), (97 : Int32), (116 : Int32), (105 : Int32), (111 : Int32), (110 : Int32), (95 : Int32), (110 : Int32), (111 : Int32), (116 : Int32), (95 : Int32), (114 : Int32), (117 : Int32), (110 : Int32), (110 : Int32), (105 : Int32), (110 : Int32), (103 : Int32)]))) W (.tail _ (.head _))
  refine g_new W (shSB_ok hw) shSB_ds (own_w hw 40 rfl) (own_w hw 41 rfl) (own_w hw 42 rfl) d52_9 (q := 12) rfl (Nat.le_of_ble_eq_true rfl) (Nat.le_of_ble_eq_true rfl) fun sb T W => ?_
  refine g_dup W d52_12 (q := 13) rfl rfl ?_
  refine g_special W (con_sb0 l Z a0 E0 _ _ sb) (argsL := []) (rest := [(.ref sb), (.ref t), (.int (409 : Int32)), (.ref xe), (.ref xe)]) rfl rfl rfl pd_17 rfl (own_w hw 43 rfl) (own_w hw 44 rfl) (own_w hw 42 rfl) (own_w hw 45 rfl) (by decide) d52_13 (q := 16) rfl rfl (Nat.le_of_ble_eq_true rfl) (Nat.le_of_ble_eq_true rfl) (Nat.le_of_ble_eq_true rfl) (Nat.le_of_ble_eq_true rfl) ?_
  rintro _ _ _ T ⟨v0, rfl, rfl, rfl⟩ W
  refine g_ldcH W (vs := enc [(111 : Int32), (112 : Int32), (101 : Int32), (114 : Int32), (97 : Int32), (116 : Int32), (105 : Int32), (111 : Int32), (110 : Int32), (32 : Int32), (91 : Int32)]) (own_w hw 58 rfl) hS (by decide +kernel) lit_58 (by decide) enc_fits d52_16 (q := 18) rfl (nn := 44) (by decide +kernel) (Nat.le_of_ble_eq_true rfl) (Nat.le_of_ble_eq_true rfl) (Nat.le_of_ble_eq_true rfl) fun q0 bq0 T W => ?_
  have ha1 := own_to ha1 W (fun y hy => .tail _ (.tail _ hy))
  have ha2 := own_to ha2 W (fun y hy => .tail _ (.tail _ hy))
  have hb1 := own_to hb1 W (fun y hy => .tail _ (.tail _ hy))
  have hb2 := own_to hb2 W (fun y hy => .tail _ (.tail _ hy))
  have ht1 := own_to ht1 W (fun y hy => .tail _ (.tail _ hy))
  have ht2 := own_to ht2 W (fun y hy => .tail _ (.tail _ hy))
  have hq01 := own_mem (x := (q0, ObjC Z "java/lang/String" shStr [.ref bq0, .int (0 : Int32)])) W (.head _)
  have hq02 := own_mem (x := (bq0, ArrC Z .byte (enc [(111 : Int32), (112 : Int32), (101 : Int32), (114 : Int32), (97 : Int32), (116 : Int32), (105 : Int32), (111 : Int32), (110 : Int32), (32 : Int32), (91 : Int32)]))) W (.tail _ (.head _))
  refine g_virtual W (con_app00 l Z a0 E0 _ _ sb v0 ([] : List Int32) (List.replicate 16 (.int 0)) q0 bq0 [(111 : Int32), (112 : Int32), (101 : Int32), (114 : Int32), (97 : Int32), (116 : Int32), (105 : Int32), (111 : Int32), (110 : Int32), (32 : Int32), (91 : Int32)] hq01 hq02 (by decide) 0 11 16 16 160 rfl rfl rfl (by decide) (by decide) (by decide)) (own_ex (W.ow (i := 1) rfl) fun _ h => h.1) (argsL := [(.ref q0)]) (rest := [(.ref t), (.int (409 : Int32)), (.ref xe), (.ref xe)]) rfl rfl pd_30 rfl (own_w hw 59 rfl) (own_w hw 60 rfl) (own_w hw 62 rfl) (own_w hw 61 rfl) (own_w hw 42 rfl) (own_w hw 63 rfl) (by decide) d52_18 (q := 21) rfl rfl (Nat.le_of_ble_eq_true rfl) (Nat.le_of_ble_eq_true rfl) (Nat.le_of_ble_eq_true rfl) (Nat.le_of_ble_eq_true rfl) ?_
  rintro _ _ _ T ⟨v1, r1, rfl, rfl, rfl, hl1, hc1⟩ W
  refine g_aloadN W d52_21 (q := 22) rfl rfl rfl ?_
  refine g_virtual W (con_app00 l Z a0 E0 _ _ sb v1 (([] : List Int32) ++ [(111 : Int32), (112 : Int32), (101 : Int32), (114 : Int32), (97 : Int32), (116 : Int32), (105 : Int32), (111 : Int32), (110 : Int32), (32 : Int32), (91 : Int32)]) r1 a ba ids ha1 ha2 hlA 11 2 16 16 160 hl1 hids hc1 (by decide) (by decide) (by decide)) (own_ex (W.ow (i := 1) rfl) fun _ h => h.1) (argsL := [(.ref a)]) (rest := [(.ref t), (.int (409 : Int32)), (.ref xe), (.ref xe)]) rfl rfl pd_30 rfl (own_w hw 59 rfl) (own_w hw 60 rfl) (own_w hw 62 rfl) (own_w hw 61 rfl) (own_w hw 42 rfl) (own_w hw 63 rfl) (by decide) d52_22 (q := 25) rfl rfl (Nat.le_of_ble_eq_true rfl) (Nat.le_of_ble_eq_true rfl) (Nat.le_of_ble_eq_true rfl) (Nat.le_of_ble_eq_true rfl) ?_
  rintro _ _ _ T ⟨v2, r2, rfl, rfl, rfl, hl2, hc2⟩ W
  refine g_ldcH W (vs := enc [(93 : Int32), (32 : Int32), (105 : Int32), (115 : Int32), (32 : Int32), (110 : Int32), (111 : Int32), (116 : Int32), (32 : Int32), (114 : Int32), (117 : Int32), (110 : Int32), (110 : Int32), (105 : Int32), (110 : Int32), (103 : Int32), (58 : Int32), (32 : Int32), (105 : Int32), (116 : Int32), (32 : Int32), (105 : Int32), (115 : Int32), (32 : Int32), (91 : Int32)]) (own_w hw 106 rfl) hS (by decide +kernel) lit_106 (by decide) enc_fits d52_25 (q := 27) rfl (nn := 100) (by decide +kernel) (Nat.le_of_ble_eq_true rfl) (Nat.le_of_ble_eq_true rfl) (Nat.le_of_ble_eq_true rfl) fun q2 bq2 T W => ?_
  have ha1 := own_to ha1 W (fun y hy => .tail _ (.tail _ hy))
  have ha2 := own_to ha2 W (fun y hy => .tail _ (.tail _ hy))
  have hb1 := own_to hb1 W (fun y hy => .tail _ (.tail _ hy))
  have hb2 := own_to hb2 W (fun y hy => .tail _ (.tail _ hy))
  have ht1 := own_to ht1 W (fun y hy => .tail _ (.tail _ hy))
  have ht2 := own_to ht2 W (fun y hy => .tail _ (.tail _ hy))
  have hq01 := own_to hq01 W (fun y hy => .tail _ (.tail _ hy))
  have hq02 := own_to hq02 W (fun y hy => .tail _ (.tail _ hy))
  have hq21 := own_mem (x := (q2, ObjC Z "java/lang/String" shStr [.ref bq2, .int (0 : Int32)])) W (.head _)
  have hq22 := own_mem (x := (bq2, ArrC Z .byte (enc [(93 : Int32), (32 : Int32), (105 : Int32), (115 : Int32), (32 : Int32), (110 : Int32), (111 : Int32), (116 : Int32), (32 : Int32), (114 : Int32), (117 : Int32), (110 : Int32), (110 : Int32), (105 : Int32), (110 : Int32), (103 : Int32), (58 : Int32), (32 : Int32), (105 : Int32), (116 : Int32), (32 : Int32), (105 : Int32), (115 : Int32), (32 : Int32), (91 : Int32)]))) W (.tail _ (.head _))
  refine g_virtual W (con_app00 l Z a0 E0 _ _ sb v2 ((([] : List Int32) ++ [(111 : Int32), (112 : Int32), (101 : Int32), (114 : Int32), (97 : Int32), (116 : Int32), (105 : Int32), (111 : Int32), (110 : Int32), (32 : Int32), (91 : Int32)]) ++ ids) r2 q2 bq2 [(93 : Int32), (32 : Int32), (105 : Int32), (115 : Int32), (32 : Int32), (110 : Int32), (111 : Int32), (116 : Int32), (32 : Int32), (114 : Int32), (117 : Int32), (110 : Int32), (110 : Int32), (105 : Int32), (110 : Int32), (103 : Int32), (58 : Int32), (32 : Int32), (105 : Int32), (116 : Int32), (32 : Int32), (105 : Int32), (115 : Int32), (32 : Int32), (91 : Int32)] hq21 hq22 (by decide) 13 25 16 38 160 hl2 rfl hc2 (by decide) (by decide) (by decide)) (own_ex (W.ow (i := 1) rfl) fun _ h => h.1) (argsL := [(.ref q2)]) (rest := [(.ref t), (.int (409 : Int32)), (.ref xe), (.ref xe)]) rfl rfl pd_30 rfl (own_w hw 59 rfl) (own_w hw 60 rfl) (own_w hw 62 rfl) (own_w hw 61 rfl) (own_w hw 42 rfl) (own_w hw 63 rfl) (by decide) d52_27 (q := 30) rfl rfl (Nat.le_of_ble_eq_true rfl) (Nat.le_of_ble_eq_true rfl) (Nat.le_of_ble_eq_true rfl) (Nat.le_of_ble_eq_true rfl) ?_
  rintro _ _ _ T ⟨v3, r3, rfl, rfl, rfl, hl3, hc3⟩ W
  refine g_aloadN W d52_30 (q := 31) rfl rfl rfl ?_
  refine g_virtual W (con_app01 l Z a0 E0 _ _ sb v3 (((([] : List Int32) ++ [(111 : Int32), (112 : Int32), (101 : Int32), (114 : Int32), (97 : Int32), (116 : Int32), (105 : Int32), (111 : Int32), (110 : Int32), (32 : Int32), (91 : Int32)]) ++ ids) ++ [(93 : Int32), (32 : Int32), (105 : Int32), (115 : Int32), (32 : Int32), (110 : Int32), (111 : Int32), (116 : Int32), (32 : Int32), (114 : Int32), (117 : Int32), (110 : Int32), (110 : Int32), (105 : Int32), (110 : Int32), (103 : Int32), (58 : Int32), (32 : Int32), (105 : Int32), (116 : Int32), (32 : Int32), (105 : Int32), (115 : Int32), (32 : Int32), (91 : Int32)]) r3 b bb sts hb1 hb2 38 2 38 78 160 hl3 hsts hc3 (by decide) (by decide) (by decide) (own_app255 (own_app255 (own_app255 (fun d hd => by cases hd) (by decide)) hlA) (by decide))) (own_ex (W.ow (i := 1) rfl) fun _ h => h.1) (argsL := [(.ref b)]) (rest := [(.ref t), (.int (409 : Int32)), (.ref xe), (.ref xe)]) rfl rfl pd_30 rfl (own_w hw 59 rfl) (own_w hw 60 rfl) (own_w hw 62 rfl) (own_w hw 61 rfl) (own_w hw 42 rfl) (own_w hw 63 rfl) (by decide) d52_31 (q := 34) rfl rfl (Nat.le_of_ble_eq_true rfl) (Nat.le_of_ble_eq_true rfl) (Nat.le_of_ble_eq_true rfl) (Nat.le_of_ble_eq_true rfl) ?_
  rintro _ _ _ T ⟨v4, r4, rfl, rfl, rfl, hl4, hc4⟩ W
  refine g_ldcH W (vs := enc [(93 : Int32)]) (own_w hw 130 rfl) hS (by decide +kernel) lit_130 (by decide) enc_fits d52_34 (q := 36) rfl (nn := 4) (by decide +kernel) (Nat.le_of_ble_eq_true rfl) (Nat.le_of_ble_eq_true rfl) (Nat.le_of_ble_eq_true rfl) fun q4 bq4 T W => ?_
  have ha1 := own_to ha1 W (fun y hy => .tail _ (.tail _ hy))
  have ha2 := own_to ha2 W (fun y hy => .tail _ (.tail _ hy))
  have hb1 := own_to hb1 W (fun y hy => .tail _ (.tail _ hy))
  have hb2 := own_to hb2 W (fun y hy => .tail _ (.tail _ hy))
  have ht1 := own_to ht1 W (fun y hy => .tail _ (.tail _ hy))
  have ht2 := own_to ht2 W (fun y hy => .tail _ (.tail _ hy))
  have hq01 := own_to hq01 W (fun y hy => .tail _ (.tail _ hy))
  have hq02 := own_to hq02 W (fun y hy => .tail _ (.tail _ hy))
  have hq21 := own_to hq21 W (fun y hy => .tail _ (.tail _ hy))
  have hq22 := own_to hq22 W (fun y hy => .tail _ (.tail _ hy))
  have hq41 := own_mem (x := (q4, ObjC Z "java/lang/String" shStr [.ref bq4, .int (0 : Int32)])) W (.head _)
  have hq42 := own_mem (x := (bq4, ArrC Z .byte (enc [(93 : Int32)]))) W (.tail _ (.head _))
  refine g_virtual W (con_app10 l Z a0 E0 _ _ sb v4 ((((([] : List Int32) ++ [(111 : Int32), (112 : Int32), (101 : Int32), (114 : Int32), (97 : Int32), (116 : Int32), (105 : Int32), (111 : Int32), (110 : Int32), (32 : Int32), (91 : Int32)]) ++ ids) ++ [(93 : Int32), (32 : Int32), (105 : Int32), (115 : Int32), (32 : Int32), (110 : Int32), (111 : Int32), (116 : Int32), (32 : Int32), (114 : Int32), (117 : Int32), (110 : Int32), (110 : Int32), (105 : Int32), (110 : Int32), (103 : Int32), (58 : Int32), (32 : Int32), (105 : Int32), (116 : Int32), (32 : Int32), (105 : Int32), (115 : Int32), (32 : Int32), (91 : Int32)]) ++ sts) r4 q4 bq4 [(93 : Int32)] hq41 hq42 (by decide) 40 1 78 78 160 hl4 rfl hc4 (by decide) (by decide) (by decide)) (own_ex (W.ow (i := 1) rfl) fun _ h => h.1) (argsL := [(.ref q4)]) (rest := [(.ref t), (.int (409 : Int32)), (.ref xe), (.ref xe)]) rfl rfl pd_30 rfl (own_w hw 59 rfl) (own_w hw 60 rfl) (own_w hw 62 rfl) (own_w hw 61 rfl) (own_w hw 42 rfl) (own_w hw 63 rfl) (by decide) d52_36 (q := 39) rfl rfl (Nat.le_of_ble_eq_true rfl) (Nat.le_of_ble_eq_true rfl) (Nat.le_of_ble_eq_true rfl) (Nat.le_of_ble_eq_true rfl) ?_
  rintro _ _ _ T ⟨v5, r5, rfl, rfl, rfl, hl5, hc5⟩ W
  refine g_virtual W (con_tos1 l Z a0 E0 _ _ sb v5 (((((([] : List Int32) ++ [(111 : Int32), (112 : Int32), (101 : Int32), (114 : Int32), (97 : Int32), (116 : Int32), (105 : Int32), (111 : Int32), (110 : Int32), (32 : Int32), (91 : Int32)]) ++ ids) ++ [(93 : Int32), (32 : Int32), (105 : Int32), (115 : Int32), (32 : Int32), (110 : Int32), (111 : Int32), (116 : Int32), (32 : Int32), (114 : Int32), (117 : Int32), (110 : Int32), (110 : Int32), (105 : Int32), (110 : Int32), (103 : Int32), (58 : Int32), (32 : Int32), (105 : Int32), (116 : Int32), (32 : Int32), (105 : Int32), (115 : Int32), (32 : Int32), (91 : Int32)]) ++ sts) ++ [(93 : Int32)]) r5 160 (by omega) (by omega) (by omega) (by decide)) (own_ex (W.ow (i := 1) rfl) fun _ h => h.1) (argsL := []) (rest := [(.ref t), (.int (409 : Int32)), (.ref xe), (.ref xe)]) rfl rfl pd_31 rfl (own_w hw 131 rfl) (own_w hw 132 rfl) (own_w hw 134 rfl) (own_w hw 133 rfl) (own_w hw 42 rfl) (own_w hw 135 rfl) (by decide) d52_39 (q := 42) rfl rfl (Nat.le_of_ble_eq_true rfl) (Nat.le_of_ble_eq_true rfl) (Nat.le_of_ble_eq_true rfl) (Nat.le_of_ble_eq_true rfl) ?_
  rintro _ _ _ T ⟨ms, rfl, rfl, hsub, bm, hm1, hm2⟩ W
  have ha1 := own_to ha1 W (hsub)
  have ha2 := own_to ha2 W (hsub)
  have hb1 := own_to hb1 W (hsub)
  have hb2 := own_to hb2 W (hsub)
  have ht1 := own_to ht1 W (hsub)
  have ht2 := own_to ht2 W (hsub)
  have hq01 := own_to hq01 W (hsub)
  have hq02 := own_to hq02 W (hsub)
  have hq21 := own_to hq21 W (hsub)
  have hq22 := own_to hq22 W (hsub)
  have hq41 := own_to hq41 W (hsub)
  have hq42 := own_to hq42 W (hsub)
  refine g_aloadN W d52_42 (q := 43) rfl rfl rfl ?_
  have W := W.drop 0
  have W := W.drop 0
  refine g_special W (con_aeI l Z a0 E0 hkn hlt O _ xe t ms a _) (argsL := [(.int (409 : Int32)), (.ref t), (.ref ms), (.ref a)]) (rest := [(.ref xe)]) rfl rfl rfl pd_32 rfl (own_w hw 170 rfl) (own_w hw 171 rfl) (own_w hw 33 rfl) (own_w hw 172 rfl) (by decide) d52_43 (q := 46) rfl rfl (Nat.le_of_ble_eq_true rfl) (Nat.le_of_ble_eq_true rfl) (Nat.le_of_ble_eq_true rfl) (Nat.le_of_ble_eq_true rfl) ?_
  rintro _ _ _ T ⟨rfl, rfl, rfl⟩ W
  exact g_retA W rfl rfl rfl d52_46 (Nat.le_of_ble_eq_true rfl) (Nat.le_of_ble_eq_true rfl) ⟨xe, t, ms, bt, bm, rfl, rfl, fun y hy => hsub _ (.tail _ (.tail _ (.tail _ (.tail _ (.tail _ (.tail _ (.tail _ (.tail _ (hy))))))))), ht1, ht2, hm1, hm2⟩
set_option maxRecDepth 65536 in
set_option maxHeartbeats 40000000 in
theorem con_onr10 {kn : Prop} (l : Launch) (Z : State) (a0 : Array Value) (E0 : Env0 Z a0) (hkn : kn) (hlt : l.stackTraces = true) (O P : List Ent) (a ba b bb : Addr) (ids sts : List Int32) (hids : ids.length = 2) (hsts : sts.length = 2) (ha1 : (a, ObjC Z "java/lang/String" shStr [.ref ba, .int (1 : Int32)]) ∈ P) (ha2 : (ba, ArrC Z .byte (enc16 ids)) ∈ P) (hb1 : (b, ObjC Z "java/lang/String" shStr [.ref bb, .int (0 : Int32)]) ∈ P) (hb2 : (bb, ArrC Z .byte (enc sts)) ∈ P) (hlB : ∀ d ∈ sts, 0 ≤ d.toInt ∧ d.toInt ≤ 255) :
    Con kn l Z EL0 (⟨"com/example/handover/handover/ApiError", "operationNotRunning", "(Ljava/lang/String;Ljava/lang/String;)Lcom/example/handover/handover/ApiError;"⟩ : MethodName) prog_1_method_11_code 2 (some (.object "com/example/handover/handover/ApiError")) [] ({ frames := 10, cells := 26, slots := 6000, locals := 165 } : Room) #[.ref a, .ref b] O P (fun v0 O' P' => ∃ x t ms bt bm, v0 = some (.ref x) ∧ O' = (x, ObjC Z "com/example/handover/handover/ApiError" shAM [.ref ms, .int (409 : Int32), .ref t, .ref a]) :: O ∧ (∀ y ∈ P, y ∈ P') ∧ (t, ObjC Z "java/lang/String" shStr [.ref bt, .int (0 : Int32)]) ∈ P' ∧ (bt, ArrC Z .byte (enc [(111 : Int32), (112 : Int32), (101 : Int32), (114 : Int32), (97 : Int32), (116 : Int32), (105 : Int32), (111 : Int32), (110 : Int32), (95 : Int32), (110 : Int32), (111 : Int32), (116 : Int32), (95 : Int32), (114 : Int32), (117 : Int32), (110 : Int32), (110 : Int32), (105 : Int32), (110 : Int32), (103 : Int32)])) ∈ P' ∧ (ms, ObjC Z "java/lang/String" shStr [.ref bm, .int (1 : Int32)]) ∈ P' ∧ (bm, ArrC Z .byte (enc16 ((((([] ++ [(111 : Int32), (112 : Int32), (101 : Int32), (114 : Int32), (97 : Int32), (116 : Int32), (105 : Int32), (111 : Int32), (110 : Int32), (32 : Int32), (91 : Int32)]) ++ ids) ++ [(93 : Int32), (32 : Int32), (105 : Int32), (115 : Int32), (32 : Int32), (110 : Int32), (111 : Int32), (116 : Int32), (32 : Int32), (114 : Int32), (117 : Int32), (110 : Int32), (110 : Int32), (105 : Int32), (110 : Int32), (103 : Int32), (58 : Int32), (32 : Int32), (105 : Int32), (116 : Int32), (32 : Int32), (105 : Int32), (115 : Int32), (32 : Int32), (91 : Int32)]) ++ sts) ++ [(93 : Int32)]))) ∈ P') := by
  obtain ⟨hw, hs0, hEL, hS, ⟨cs0, hC0, hcs0⟩, ⟨fv, hFv, hfv⟩, hAD, hHI, hLO, hmore⟩ := id E0
  refine con_intro (plainFor_of_name pn_13) hEL (fun m => ef_onr m _ _) ?_
  intro p e s m below meth c T W hnm
  refine g_newU W (shT8_ok hw) shT8_ds (own_w hw 35 rfl) (own_w hw 36 rfl) (own_w hw 33 rfl) d52_0 (q := 3) rfl (Nat.le_of_ble_eq_true rfl) (Nat.le_of_ble_eq_true rfl) fun xe T W => ?_
  refine g_dup W d52_3 (q := 4) rfl rfl ?_
  refine g_sipush W (v := (409 : Int32)) d52_4 (q := 7) rfl rfl ?_
  refine g_ldcH W (vs := enc [(111 : Int32), (112 : Int32), (101 : Int32), (114 : Int32), (97 : Int32), (116 : Int32), (105 : Int32), (111 : Int32), (110 : Int32), (95 : Int32), (110 : Int32), (111 : Int32), (116 : Int32), (95 : Int32), (114 : Int32), (117 : Int32), (110 : Int32), (110 : Int32), (105 : Int32), (110 : Int32), (103 : Int32)]) (own_w hw 37 rfl) hS (by decide +kernel) lit_37 (by decide) enc_fits d52_7 (q := 9) rfl (nn := 84) (by decide +kernel) (Nat.le_of_ble_eq_true rfl) (Nat.le_of_ble_eq_true rfl) (Nat.le_of_ble_eq_true rfl) fun t bt T W => ?_
  have ha1 := own_to ha1 W (fun y hy => .tail _ (.tail _ hy))
  have ha2 := own_to ha2 W (fun y hy => .tail _ (.tail _ hy))
  have hb1 := own_to hb1 W (fun y hy => .tail _ (.tail _ hy))
  have hb2 := own_to hb2 W (fun y hy => .tail _ (.tail _ hy))
  have ht1 := own_mem (x := (t, ObjC Z "java/lang/String" shStr [.ref bt, .int (0 : Int32)])) W (.head _)
  have ht2 := own_mem (x := (bt, ArrC Z .byte (enc [(111 : Int32), (112 : Int32), (101 : Int32), (114 : Int32), (97 : Int32), (116 : Int32), (105 : Int32), (111 : Int32), (110 : Int32), (95 : Int32), (110 : Int32), (111 : Int32), (116 : Int32), (95 : Int32), (114 : Int32), (117 : Int32), (110 : Int32), (110 : Int32), (105 : Int32), (110 : Int32), (103 : Int32)]))) W (.tail _ (.head _))
  refine g_new W (shSB_ok hw) shSB_ds (own_w hw 40 rfl) (own_w hw 41 rfl) (own_w hw 42 rfl) d52_9 (q := 12) rfl (Nat.le_of_ble_eq_true rfl) (Nat.le_of_ble_eq_true rfl) fun sb T W => ?_
  refine g_dup W d52_12 (q := 13) rfl rfl ?_
  refine g_special W (con_sb0 l Z a0 E0 _ _ sb) (argsL := []) (rest := [(.ref sb), (.ref t), (.int (409 : Int32)), (.ref xe), (.ref xe)]) rfl rfl rfl pd_17 rfl (own_w hw 43 rfl) (own_w hw 44 rfl) (own_w hw 42 rfl) (own_w hw 45 rfl) (by decide) d52_13 (q := 16) rfl rfl (Nat.le_of_ble_eq_true rfl) (Nat.le_of_ble_eq_true rfl) (Nat.le_of_ble_eq_true rfl) (Nat.le_of_ble_eq_true rfl) ?_
  rintro _ _ _ T ⟨v0, rfl, rfl, rfl⟩ W
  refine g_ldcH W (vs := enc [(111 : Int32), (112 : Int32), (101 : Int32), (114 : Int32), (97 : Int32), (116 : Int32), (105 : Int32), (111 : Int32), (110 : Int32), (32 : Int32), (91 : Int32)]) (own_w hw 58 rfl) hS (by decide +kernel) lit_58 (by decide) enc_fits d52_16 (q := 18) rfl (nn := 44) (by decide +kernel) (Nat.le_of_ble_eq_true rfl) (Nat.le_of_ble_eq_true rfl) (Nat.le_of_ble_eq_true rfl) fun q0 bq0 T W => ?_
  have ha1 := own_to ha1 W (fun y hy => .tail _ (.tail _ hy))
  have ha2 := own_to ha2 W (fun y hy => .tail _ (.tail _ hy))
  have hb1 := own_to hb1 W (fun y hy => .tail _ (.tail _ hy))
  have hb2 := own_to hb2 W (fun y hy => .tail _ (.tail _ hy))
  have ht1 := own_to ht1 W (fun y hy => .tail _ (.tail _ hy))
  have ht2 := own_to ht2 W (fun y hy => .tail _ (.tail _ hy))
  have hq01 := own_mem (x := (q0, ObjC Z "java/lang/String" shStr [.ref bq0, .int (0 : Int32)])) W (.head _)
  have hq02 := own_mem (x := (bq0, ArrC Z .byte (enc [(111 : Int32), (112 : Int32), (101 : Int32), (114 : Int32), (97 : Int32), (116 : Int32), (105 : Int32), (111 : Int32), (110 : Int32), (32 : Int32), (91 : Int32)]))) W (.tail _ (.head _))
  refine g_virtual W (con_app00 l Z a0 E0 _ _ sb v0 ([] : List Int32) (List.replicate 16 (.int 0)) q0 bq0 [(111 : Int32), (112 : Int32), (101 : Int32), (114 : Int32), (97 : Int32), (116 : Int32), (105 : Int32), (111 : Int32), (110 : Int32), (32 : Int32), (91 : Int32)] hq01 hq02 (by decide) 0 11 16 16 160 rfl rfl rfl (by decide) (by decide) (by decide)) (own_ex (W.ow (i := 1) rfl) fun _ h => h.1) (argsL := [(.ref q0)]) (rest := [(.ref t), (.int (409 : Int32)), (.ref xe), (.ref xe)]) rfl rfl pd_30 rfl (own_w hw 59 rfl) (own_w hw 60 rfl) (own_w hw 62 rfl) (own_w hw 61 rfl) (own_w hw 42 rfl) (own_w hw 63 rfl) (by decide) d52_18 (q := 21) rfl rfl (Nat.le_of_ble_eq_true rfl) (Nat.le_of_ble_eq_true rfl) (Nat.le_of_ble_eq_true rfl) (Nat.le_of_ble_eq_true rfl) ?_
  rintro _ _ _ T ⟨v1, r1, rfl, rfl, rfl, hl1, hc1⟩ W
  refine g_aloadN W d52_21 (q := 22) rfl rfl rfl ?_
  refine g_virtual W (con_app01 l Z a0 E0 _ _ sb v1 (([] : List Int32) ++ [(111 : Int32), (112 : Int32), (101 : Int32), (114 : Int32), (97 : Int32), (116 : Int32), (105 : Int32), (111 : Int32), (110 : Int32), (32 : Int32), (91 : Int32)]) r1 a ba ids ha1 ha2 11 2 16 16 160 hl1 hids hc1 (by decide) (by decide) (by decide) (own_app255 (fun d hd => by cases hd) (by decide))) (own_ex (W.ow (i := 1) rfl) fun _ h => h.1) (argsL := [(.ref a)]) (rest := [(.ref t), (.int (409 : Int32)), (.ref xe), (.ref xe)]) rfl rfl pd_30 rfl (own_w hw 59 rfl) (own_w hw 60 rfl) (own_w hw 62 rfl) (own_w hw 61 rfl) (own_w hw 42 rfl) (own_w hw 63 rfl) (by decide) d52_22 (q := 25) rfl rfl (Nat.le_of_ble_eq_true rfl) (Nat.le_of_ble_eq_true rfl) (Nat.le_of_ble_eq_true rfl) (Nat.le_of_ble_eq_true rfl) ?_
  rintro _ _ _ T ⟨v2, r2, rfl, rfl, rfl, hl2, hc2⟩ W
  refine g_ldcH W (vs := enc [(93 : Int32), (32 : Int32), (105 : Int32), (115 : Int32), (32 : Int32), (110 : Int32), (111 : Int32), (116 : Int32), (32 : Int32), (114 : Int32), (117 : Int32), (110 : Int32), (110 : Int32), (105 : Int32), (110 : Int32), (103 : Int32), (58 : Int32), (32 : Int32), (105 : Int32), (116 : Int32), (32 : Int32), (105 : Int32), (115 : Int32), (32 : Int32), (91 : Int32)]) (own_w hw 106 rfl) hS (by decide +kernel) lit_106 (by decide) enc_fits d52_25 (q := 27) rfl (nn := 100) (by decide +kernel) (Nat.le_of_ble_eq_true rfl) (Nat.le_of_ble_eq_true rfl) (Nat.le_of_ble_eq_true rfl) fun q2 bq2 T W => ?_
  have ha1 := own_to ha1 W (fun y hy => .tail _ (.tail _ hy))
  have ha2 := own_to ha2 W (fun y hy => .tail _ (.tail _ hy))
  have hb1 := own_to hb1 W (fun y hy => .tail _ (.tail _ hy))
  have hb2 := own_to hb2 W (fun y hy => .tail _ (.tail _ hy))
  have ht1 := own_to ht1 W (fun y hy => .tail _ (.tail _ hy))
  have ht2 := own_to ht2 W (fun y hy => .tail _ (.tail _ hy))
  have hq01 := own_to hq01 W (fun y hy => .tail _ (.tail _ hy))
  have hq02 := own_to hq02 W (fun y hy => .tail _ (.tail _ hy))
  have hq21 := own_mem (x := (q2, ObjC Z "java/lang/String" shStr [.ref bq2, .int (0 : Int32)])) W (.head _)
  have hq22 := own_mem (x := (bq2, ArrC Z .byte (enc [(93 : Int32), (32 : Int32), (105 : Int32), (115 : Int32), (32 : Int32), (110 : Int32), (111 : Int32), (116 : Int32), (32 : Int32), (114 : Int32), (117 : Int32), (110 : Int32), (110 : Int32), (105 : Int32), (110 : Int32), (103 : Int32), (58 : Int32), (32 : Int32), (105 : Int32), (116 : Int32), (32 : Int32), (105 : Int32), (115 : Int32), (32 : Int32), (91 : Int32)]))) W (.tail _ (.head _))
  refine g_virtual W (con_app10 l Z a0 E0 _ _ sb v2 ((([] : List Int32) ++ [(111 : Int32), (112 : Int32), (101 : Int32), (114 : Int32), (97 : Int32), (116 : Int32), (105 : Int32), (111 : Int32), (110 : Int32), (32 : Int32), (91 : Int32)]) ++ ids) r2 q2 bq2 [(93 : Int32), (32 : Int32), (105 : Int32), (115 : Int32), (32 : Int32), (110 : Int32), (111 : Int32), (116 : Int32), (32 : Int32), (114 : Int32), (117 : Int32), (110 : Int32), (110 : Int32), (105 : Int32), (110 : Int32), (103 : Int32), (58 : Int32), (32 : Int32), (105 : Int32), (116 : Int32), (32 : Int32), (105 : Int32), (115 : Int32), (32 : Int32), (91 : Int32)] hq21 hq22 (by decide) 13 25 16 38 160 hl2 rfl hc2 (by decide) (by decide) (by decide)) (own_ex (W.ow (i := 1) rfl) fun _ h => h.1) (argsL := [(.ref q2)]) (rest := [(.ref t), (.int (409 : Int32)), (.ref xe), (.ref xe)]) rfl rfl pd_30 rfl (own_w hw 59 rfl) (own_w hw 60 rfl) (own_w hw 62 rfl) (own_w hw 61 rfl) (own_w hw 42 rfl) (own_w hw 63 rfl) (by decide) d52_27 (q := 30) rfl rfl (Nat.le_of_ble_eq_true rfl) (Nat.le_of_ble_eq_true rfl) (Nat.le_of_ble_eq_true rfl) (Nat.le_of_ble_eq_true rfl) ?_
  rintro _ _ _ T ⟨v3, r3, rfl, rfl, rfl, hl3, hc3⟩ W
  refine g_aloadN W d52_30 (q := 31) rfl rfl rfl ?_
  refine g_virtual W (con_app10 l Z a0 E0 _ _ sb v3 (((([] : List Int32) ++ [(111 : Int32), (112 : Int32), (101 : Int32), (114 : Int32), (97 : Int32), (116 : Int32), (105 : Int32), (111 : Int32), (110 : Int32), (32 : Int32), (91 : Int32)]) ++ ids) ++ [(93 : Int32), (32 : Int32), (105 : Int32), (115 : Int32), (32 : Int32), (110 : Int32), (111 : Int32), (116 : Int32), (32 : Int32), (114 : Int32), (117 : Int32), (110 : Int32), (110 : Int32), (105 : Int32), (110 : Int32), (103 : Int32), (58 : Int32), (32 : Int32), (105 : Int32), (116 : Int32), (32 : Int32), (105 : Int32), (115 : Int32), (32 : Int32), (91 : Int32)]) r3 b bb sts hb1 hb2 hlB 38 2 38 78 160 hl3 hsts hc3 (by decide) (by decide) (by decide)) (own_ex (W.ow (i := 1) rfl) fun _ h => h.1) (argsL := [(.ref b)]) (rest := [(.ref t), (.int (409 : Int32)), (.ref xe), (.ref xe)]) rfl rfl pd_30 rfl (own_w hw 59 rfl) (own_w hw 60 rfl) (own_w hw 62 rfl) (own_w hw 61 rfl) (own_w hw 42 rfl) (own_w hw 63 rfl) (by decide) d52_31 (q := 34) rfl rfl (Nat.le_of_ble_eq_true rfl) (Nat.le_of_ble_eq_true rfl) (Nat.le_of_ble_eq_true rfl) (Nat.le_of_ble_eq_true rfl) ?_
  rintro _ _ _ T ⟨v4, r4, rfl, rfl, rfl, hl4, hc4⟩ W
  refine g_ldcH W (vs := enc [(93 : Int32)]) (own_w hw 130 rfl) hS (by decide +kernel) lit_130 (by decide) enc_fits d52_34 (q := 36) rfl (nn := 4) (by decide +kernel) (Nat.le_of_ble_eq_true rfl) (Nat.le_of_ble_eq_true rfl) (Nat.le_of_ble_eq_true rfl) fun q4 bq4 T W => ?_
  have ha1 := own_to ha1 W (fun y hy => .tail _ (.tail _ hy))
  have ha2 := own_to ha2 W (fun y hy => .tail _ (.tail _ hy))
  have hb1 := own_to hb1 W (fun y hy => .tail _ (.tail _ hy))
  have hb2 := own_to hb2 W (fun y hy => .tail _ (.tail _ hy))
  have ht1 := own_to ht1 W (fun y hy => .tail _ (.tail _ hy))
  have ht2 := own_to ht2 W (fun y hy => .tail _ (.tail _ hy))
  have hq01 := own_to hq01 W (fun y hy => .tail _ (.tail _ hy))
  have hq02 := own_to hq02 W (fun y hy => .tail _ (.tail _ hy))
  have hq21 := own_to hq21 W (fun y hy => .tail _ (.tail _ hy))
  have hq22 := own_to hq22 W (fun y hy => .tail _ (.tail _ hy))
  have hq41 := own_mem (x := (q4, ObjC Z "java/lang/String" shStr [.ref bq4, .int (0 : Int32)])) W (.head _)
  have hq42 := own_mem (x := (bq4, ArrC Z .byte (enc [(93 : Int32)]))) W (.tail _ (.head _))
  refine g_virtual W (con_app10 l Z a0 E0 _ _ sb v4 ((((([] : List Int32) ++ [(111 : Int32), (112 : Int32), (101 : Int32), (114 : Int32), (97 : Int32), (116 : Int32), (105 : Int32), (111 : Int32), (110 : Int32), (32 : Int32), (91 : Int32)]) ++ ids) ++ [(93 : Int32), (32 : Int32), (105 : Int32), (115 : Int32), (32 : Int32), (110 : Int32), (111 : Int32), (116 : Int32), (32 : Int32), (114 : Int32), (117 : Int32), (110 : Int32), (110 : Int32), (105 : Int32), (110 : Int32), (103 : Int32), (58 : Int32), (32 : Int32), (105 : Int32), (116 : Int32), (32 : Int32), (105 : Int32), (115 : Int32), (32 : Int32), (91 : Int32)]) ++ sts) r4 q4 bq4 [(93 : Int32)] hq41 hq42 (by decide) 40 1 78 78 160 hl4 rfl hc4 (by decide) (by decide) (by decide)) (own_ex (W.ow (i := 1) rfl) fun _ h => h.1) (argsL := [(.ref q4)]) (rest := [(.ref t), (.int (409 : Int32)), (.ref xe), (.ref xe)]) rfl rfl pd_30 rfl (own_w hw 59 rfl) (own_w hw 60 rfl) (own_w hw 62 rfl) (own_w hw 61 rfl) (own_w hw 42 rfl) (own_w hw 63 rfl) (by decide) d52_36 (q := 39) rfl rfl (Nat.le_of_ble_eq_true rfl) (Nat.le_of_ble_eq_true rfl) (Nat.le_of_ble_eq_true rfl) (Nat.le_of_ble_eq_true rfl) ?_
  rintro _ _ _ T ⟨v5, r5, rfl, rfl, rfl, hl5, hc5⟩ W
  refine g_virtual W (con_tos1 l Z a0 E0 _ _ sb v5 (((((([] : List Int32) ++ [(111 : Int32), (112 : Int32), (101 : Int32), (114 : Int32), (97 : Int32), (116 : Int32), (105 : Int32), (111 : Int32), (110 : Int32), (32 : Int32), (91 : Int32)]) ++ ids) ++ [(93 : Int32), (32 : Int32), (105 : Int32), (115 : Int32), (32 : Int32), (110 : Int32), (111 : Int32), (116 : Int32), (32 : Int32), (114 : Int32), (117 : Int32), (110 : Int32), (110 : Int32), (105 : Int32), (110 : Int32), (103 : Int32), (58 : Int32), (32 : Int32), (105 : Int32), (116 : Int32), (32 : Int32), (105 : Int32), (115 : Int32), (32 : Int32), (91 : Int32)]) ++ sts) ++ [(93 : Int32)]) r5 160 (by omega) (by omega) (by omega) (by decide)) (own_ex (W.ow (i := 1) rfl) fun _ h => h.1) (argsL := []) (rest := [(.ref t), (.int (409 : Int32)), (.ref xe), (.ref xe)]) rfl rfl pd_31 rfl (own_w hw 131 rfl) (own_w hw 132 rfl) (own_w hw 134 rfl) (own_w hw 133 rfl) (own_w hw 42 rfl) (own_w hw 135 rfl) (by decide) d52_39 (q := 42) rfl rfl (Nat.le_of_ble_eq_true rfl) (Nat.le_of_ble_eq_true rfl) (Nat.le_of_ble_eq_true rfl) (Nat.le_of_ble_eq_true rfl) ?_
  rintro _ _ _ T ⟨ms, rfl, rfl, hsub, bm, hm1, hm2⟩ W
  have ha1 := own_to ha1 W (hsub)
  have ha2 := own_to ha2 W (hsub)
  have hb1 := own_to hb1 W (hsub)
  have hb2 := own_to hb2 W (hsub)
  have ht1 := own_to ht1 W (hsub)
  have ht2 := own_to ht2 W (hsub)
  have hq01 := own_to hq01 W (hsub)
  have hq02 := own_to hq02 W (hsub)
  have hq21 := own_to hq21 W (hsub)
  have hq22 := own_to hq22 W (hsub)
  have hq41 := own_to hq41 W (hsub)
  have hq42 := own_to hq42 W (hsub)
  refine g_aloadN W d52_42 (q := 43) rfl rfl rfl ?_
  have W := W.drop 0
  have W := W.drop 0
  refine g_special W (con_aeI l Z a0 E0 hkn hlt O _ xe t ms a _) (argsL := [(.int (409 : Int32)), (.ref t), (.ref ms), (.ref a)]) (rest := [(.ref xe)]) rfl rfl rfl pd_32 rfl (own_w hw 170 rfl) (own_w hw 171 rfl) (own_w hw 33 rfl) (own_w hw 172 rfl) (by decide) d52_43 (q := 46) rfl rfl (Nat.le_of_ble_eq_true rfl) (Nat.le_of_ble_eq_true rfl) (Nat.le_of_ble_eq_true rfl) (Nat.le_of_ble_eq_true rfl) ?_
  rintro _ _ _ T ⟨rfl, rfl, rfl⟩ W
  exact g_retA W rfl rfl rfl d52_46 (Nat.le_of_ble_eq_true rfl) (Nat.le_of_ble_eq_true rfl) ⟨xe, t, ms, bt, bm, rfl, rfl, fun y hy => hsub _ (.tail _ (.tail _ (.tail _ (.tail _ (.tail _ (.tail _ (.tail _ (.tail _ (hy))))))))), ht1, ht2, hm1, hm2⟩
set_option maxRecDepth 65536 in
set_option maxHeartbeats 40000000 in
theorem con_onr11 {kn : Prop} (l : Launch) (Z : State) (a0 : Array Value) (E0 : Env0 Z a0) (hkn : kn) (hlt : l.stackTraces = true) (O P : List Ent) (a ba b bb : Addr) (ids sts : List Int32) (hids : ids.length = 2) (hsts : sts.length = 2) (ha1 : (a, ObjC Z "java/lang/String" shStr [.ref ba, .int (1 : Int32)]) ∈ P) (ha2 : (ba, ArrC Z .byte (enc16 ids)) ∈ P) (hb1 : (b, ObjC Z "java/lang/String" shStr [.ref bb, .int (1 : Int32)]) ∈ P) (hb2 : (bb, ArrC Z .byte (enc16 sts)) ∈ P) :
    Con kn l Z EL0 (⟨"com/example/handover/handover/ApiError", "operationNotRunning", "(Ljava/lang/String;Ljava/lang/String;)Lcom/example/handover/handover/ApiError;"⟩ : MethodName) prog_1_method_11_code 2 (some (.object "com/example/handover/handover/ApiError")) [] ({ frames := 10, cells := 26, slots := 6000, locals := 165 } : Room) #[.ref a, .ref b] O P (fun v0 O' P' => ∃ x t ms bt bm, v0 = some (.ref x) ∧ O' = (x, ObjC Z "com/example/handover/handover/ApiError" shAM [.ref ms, .int (409 : Int32), .ref t, .ref a]) :: O ∧ (∀ y ∈ P, y ∈ P') ∧ (t, ObjC Z "java/lang/String" shStr [.ref bt, .int (0 : Int32)]) ∈ P' ∧ (bt, ArrC Z .byte (enc [(111 : Int32), (112 : Int32), (101 : Int32), (114 : Int32), (97 : Int32), (116 : Int32), (105 : Int32), (111 : Int32), (110 : Int32), (95 : Int32), (110 : Int32), (111 : Int32), (116 : Int32), (95 : Int32), (114 : Int32), (117 : Int32), (110 : Int32), (110 : Int32), (105 : Int32), (110 : Int32), (103 : Int32)])) ∈ P' ∧ (ms, ObjC Z "java/lang/String" shStr [.ref bm, .int (1 : Int32)]) ∈ P' ∧ (bm, ArrC Z .byte (enc16 ((((([] ++ [(111 : Int32), (112 : Int32), (101 : Int32), (114 : Int32), (97 : Int32), (116 : Int32), (105 : Int32), (111 : Int32), (110 : Int32), (32 : Int32), (91 : Int32)]) ++ ids) ++ [(93 : Int32), (32 : Int32), (105 : Int32), (115 : Int32), (32 : Int32), (110 : Int32), (111 : Int32), (116 : Int32), (32 : Int32), (114 : Int32), (117 : Int32), (110 : Int32), (110 : Int32), (105 : Int32), (110 : Int32), (103 : Int32), (58 : Int32), (32 : Int32), (105 : Int32), (116 : Int32), (32 : Int32), (105 : Int32), (115 : Int32), (32 : Int32), (91 : Int32)]) ++ sts) ++ [(93 : Int32)]))) ∈ P') := by
  obtain ⟨hw, hs0, hEL, hS, ⟨cs0, hC0, hcs0⟩, ⟨fv, hFv, hfv⟩, hAD, hHI, hLO, hmore⟩ := id E0
  refine con_intro (plainFor_of_name pn_13) hEL (fun m => ef_onr m _ _) ?_
  intro p e s m below meth c T W hnm
  refine g_newU W (shT8_ok hw) shT8_ds (own_w hw 35 rfl) (own_w hw 36 rfl) (own_w hw 33 rfl) d52_0 (q := 3) rfl (Nat.le_of_ble_eq_true rfl) (Nat.le_of_ble_eq_true rfl) fun xe T W => ?_
  refine g_dup W d52_3 (q := 4) rfl rfl ?_
  refine g_sipush W (v := (409 : Int32)) d52_4 (q := 7) rfl rfl ?_
  refine g_ldcH W (vs := enc [(111 : Int32), (112 : Int32), (101 : Int32), (114 : Int32), (97 : Int32), (116 : Int32), (105 : Int32), (111 : Int32), (110 : Int32), (95 : Int32), (110 : Int32), (111 : Int32), (116 : Int32), (95 : Int32), (114 : Int32), (117 : Int32), (110 : Int32), (110 : Int32), (105 : Int32), (110 : Int32), (103 : Int32)]) (own_w hw 37 rfl) hS (by decide +kernel) lit_37 (by decide) enc_fits d52_7 (q := 9) rfl (nn := 84) (by decide +kernel) (Nat.le_of_ble_eq_true rfl) (Nat.le_of_ble_eq_true rfl) (Nat.le_of_ble_eq_true rfl) fun t bt T W => ?_
  have ha1 := own_to ha1 W (fun y hy => .tail _ (.tail _ hy))
  have ha2 := own_to ha2 W (fun y hy => .tail _ (.tail _ hy))
  have hb1 := own_to hb1 W (fun y hy => .tail _ (.tail _ hy))
  have hb2 := own_to hb2 W (fun y hy => .tail _ (.tail _ hy))
  have ht1 := own_mem (x := (t, ObjC Z "java/lang/String" shStr [.ref bt, .int (0 : Int32)])) W (.head _)
  have ht2 := own_mem (x := (bt, ArrC Z .byte (enc [(111 : Int32), (112 : Int32), (101 : Int32), (114 : Int32), (97 : Int32), (116 : Int32), (105 : Int32), (111 : Int32), (110 : Int32), (95 : Int32), (110 : Int32), (111 : Int32), (116 : Int32), (95 : Int32), (114 : Int32), (117 : Int32), (110 : Int32), (110 : Int32), (105 : Int32), (110 : Int32), (103 : Int32)]))) W (.tail _ (.head _))
  refine g_new W (shSB_ok hw) shSB_ds (own_w hw 40 rfl) (own_w hw 41 rfl) (own_w hw 42 rfl) d52_9 (q := 12) rfl (Nat.le_of_ble_eq_true rfl) (Nat.le_of_ble_eq_true rfl) fun sb T W => ?_
  refine g_dup W d52_12 (q := 13) rfl rfl ?_
  refine g_special W (con_sb0 l Z a0 E0 _ _ sb) (argsL := []) (rest := [(.ref sb), (.ref t), (.int (409 : Int32)), (.ref xe), (.ref xe)]) rfl rfl rfl pd_17 rfl (own_w hw 43 rfl) (own_w hw 44 rfl) (own_w hw 42 rfl) (own_w hw 45 rfl) (by decide) d52_13 (q := 16) rfl rfl (Nat.le_of_ble_eq_true rfl) (Nat.le_of_ble_eq_true rfl) (Nat.le_of_ble_eq_true rfl) (Nat.le_of_ble_eq_true rfl) ?_
  rintro _ _ _ T ⟨v0, rfl, rfl, rfl⟩ W
  refine g_ldcH W (vs := enc [(111 : Int32), (112 : Int32), (101 : Int32), (114 : Int32), (97 : Int32), (116 : Int32), (105 : Int32), (111 : Int32), (110 : Int32), (32 : Int32), (91 : Int32)]) (own_w hw 58 rfl) hS (by decide +kernel) lit_58 (by decide) enc_fits d52_16 (q := 18) rfl (nn := 44) (by decide +kernel) (Nat.le_of_ble_eq_true rfl) (Nat.le_of_ble_eq_true rfl) (Nat.le_of_ble_eq_true rfl) fun q0 bq0 T W => ?_
  have ha1 := own_to ha1 W (fun y hy => .tail _ (.tail _ hy))
  have ha2 := own_to ha2 W (fun y hy => .tail _ (.tail _ hy))
  have hb1 := own_to hb1 W (fun y hy => .tail _ (.tail _ hy))
  have hb2 := own_to hb2 W (fun y hy => .tail _ (.tail _ hy))
  have ht1 := own_to ht1 W (fun y hy => .tail _ (.tail _ hy))
  have ht2 := own_to ht2 W (fun y hy => .tail _ (.tail _ hy))
  have hq01 := own_mem (x := (q0, ObjC Z "java/lang/String" shStr [.ref bq0, .int (0 : Int32)])) W (.head _)
  have hq02 := own_mem (x := (bq0, ArrC Z .byte (enc [(111 : Int32), (112 : Int32), (101 : Int32), (114 : Int32), (97 : Int32), (116 : Int32), (105 : Int32), (111 : Int32), (110 : Int32), (32 : Int32), (91 : Int32)]))) W (.tail _ (.head _))
  refine g_virtual W (con_app00 l Z a0 E0 _ _ sb v0 ([] : List Int32) (List.replicate 16 (.int 0)) q0 bq0 [(111 : Int32), (112 : Int32), (101 : Int32), (114 : Int32), (97 : Int32), (116 : Int32), (105 : Int32), (111 : Int32), (110 : Int32), (32 : Int32), (91 : Int32)] hq01 hq02 (by decide) 0 11 16 16 160 rfl rfl rfl (by decide) (by decide) (by decide)) (own_ex (W.ow (i := 1) rfl) fun _ h => h.1) (argsL := [(.ref q0)]) (rest := [(.ref t), (.int (409 : Int32)), (.ref xe), (.ref xe)]) rfl rfl pd_30 rfl (own_w hw 59 rfl) (own_w hw 60 rfl) (own_w hw 62 rfl) (own_w hw 61 rfl) (own_w hw 42 rfl) (own_w hw 63 rfl) (by decide) d52_18 (q := 21) rfl rfl (Nat.le_of_ble_eq_true rfl) (Nat.le_of_ble_eq_true rfl) (Nat.le_of_ble_eq_true rfl) (Nat.le_of_ble_eq_true rfl) ?_
  rintro _ _ _ T ⟨v1, r1, rfl, rfl, rfl, hl1, hc1⟩ W
  refine g_aloadN W d52_21 (q := 22) rfl rfl rfl ?_
  refine g_virtual W (con_app01 l Z a0 E0 _ _ sb v1 (([] : List Int32) ++ [(111 : Int32), (112 : Int32), (101 : Int32), (114 : Int32), (97 : Int32), (116 : Int32), (105 : Int32), (111 : Int32), (110 : Int32), (32 : Int32), (91 : Int32)]) r1 a ba ids ha1 ha2 11 2 16 16 160 hl1 hids hc1 (by decide) (by decide) (by decide) (own_app255 (fun d hd => by cases hd) (by decide))) (own_ex (W.ow (i := 1) rfl) fun _ h => h.1) (argsL := [(.ref a)]) (rest := [(.ref t), (.int (409 : Int32)), (.ref xe), (.ref xe)]) rfl rfl pd_30 rfl (own_w hw 59 rfl) (own_w hw 60 rfl) (own_w hw 62 rfl) (own_w hw 61 rfl) (own_w hw 42 rfl) (own_w hw 63 rfl) (by decide) d52_22 (q := 25) rfl rfl (Nat.le_of_ble_eq_true rfl) (Nat.le_of_ble_eq_true rfl) (Nat.le_of_ble_eq_true rfl) (Nat.le_of_ble_eq_true rfl) ?_
  rintro _ _ _ T ⟨v2, r2, rfl, rfl, rfl, hl2, hc2⟩ W
  refine g_ldcH W (vs := enc [(93 : Int32), (32 : Int32), (105 : Int32), (115 : Int32), (32 : Int32), (110 : Int32), (111 : Int32), (116 : Int32), (32 : Int32), (114 : Int32), (117 : Int32), (110 : Int32), (110 : Int32), (105 : Int32), (110 : Int32), (103 : Int32), (58 : Int32), (32 : Int32), (105 : Int32), (116 : Int32), (32 : Int32), (105 : Int32), (115 : Int32), (32 : Int32), (91 : Int32)]) (own_w hw 106 rfl) hS (by decide +kernel) lit_106 (by decide) enc_fits d52_25 (q := 27) rfl (nn := 100) (by decide +kernel) (Nat.le_of_ble_eq_true rfl) (Nat.le_of_ble_eq_true rfl) (Nat.le_of_ble_eq_true rfl) fun q2 bq2 T W => ?_
  have ha1 := own_to ha1 W (fun y hy => .tail _ (.tail _ hy))
  have ha2 := own_to ha2 W (fun y hy => .tail _ (.tail _ hy))
  have hb1 := own_to hb1 W (fun y hy => .tail _ (.tail _ hy))
  have hb2 := own_to hb2 W (fun y hy => .tail _ (.tail _ hy))
  have ht1 := own_to ht1 W (fun y hy => .tail _ (.tail _ hy))
  have ht2 := own_to ht2 W (fun y hy => .tail _ (.tail _ hy))
  have hq01 := own_to hq01 W (fun y hy => .tail _ (.tail _ hy))
  have hq02 := own_to hq02 W (fun y hy => .tail _ (.tail _ hy))
  have hq21 := own_mem (x := (q2, ObjC Z "java/lang/String" shStr [.ref bq2, .int (0 : Int32)])) W (.head _)
  have hq22 := own_mem (x := (bq2, ArrC Z .byte (enc [(93 : Int32), (32 : Int32), (105 : Int32), (115 : Int32), (32 : Int32), (110 : Int32), (111 : Int32), (116 : Int32), (32 : Int32), (114 : Int32), (117 : Int32), (110 : Int32), (110 : Int32), (105 : Int32), (110 : Int32), (103 : Int32), (58 : Int32), (32 : Int32), (105 : Int32), (116 : Int32), (32 : Int32), (105 : Int32), (115 : Int32), (32 : Int32), (91 : Int32)]))) W (.tail _ (.head _))
  refine g_virtual W (con_app10 l Z a0 E0 _ _ sb v2 ((([] : List Int32) ++ [(111 : Int32), (112 : Int32), (101 : Int32), (114 : Int32), (97 : Int32), (116 : Int32), (105 : Int32), (111 : Int32), (110 : Int32), (32 : Int32), (91 : Int32)]) ++ ids) r2 q2 bq2 [(93 : Int32), (32 : Int32), (105 : Int32), (115 : Int32), (32 : Int32), (110 : Int32), (111 : Int32), (116 : Int32), (32 : Int32), (114 : Int32), (117 : Int32), (110 : Int32), (110 : Int32), (105 : Int32), (110 : Int32), (103 : Int32), (58 : Int32), (32 : Int32), (105 : Int32), (116 : Int32), (32 : Int32), (105 : Int32), (115 : Int32), (32 : Int32), (91 : Int32)] hq21 hq22 (by decide) 13 25 16 38 160 hl2 rfl hc2 (by decide) (by decide) (by decide)) (own_ex (W.ow (i := 1) rfl) fun _ h => h.1) (argsL := [(.ref q2)]) (rest := [(.ref t), (.int (409 : Int32)), (.ref xe), (.ref xe)]) rfl rfl pd_30 rfl (own_w hw 59 rfl) (own_w hw 60 rfl) (own_w hw 62 rfl) (own_w hw 61 rfl) (own_w hw 42 rfl) (own_w hw 63 rfl) (by decide) d52_27 (q := 30) rfl rfl (Nat.le_of_ble_eq_true rfl) (Nat.le_of_ble_eq_true rfl) (Nat.le_of_ble_eq_true rfl) (Nat.le_of_ble_eq_true rfl) ?_
  rintro _ _ _ T ⟨v3, r3, rfl, rfl, rfl, hl3, hc3⟩ W
  refine g_aloadN W d52_30 (q := 31) rfl rfl rfl ?_
  refine g_virtual W (con_app11 l Z a0 E0 _ _ sb v3 (((([] : List Int32) ++ [(111 : Int32), (112 : Int32), (101 : Int32), (114 : Int32), (97 : Int32), (116 : Int32), (105 : Int32), (111 : Int32), (110 : Int32), (32 : Int32), (91 : Int32)]) ++ ids) ++ [(93 : Int32), (32 : Int32), (105 : Int32), (115 : Int32), (32 : Int32), (110 : Int32), (111 : Int32), (116 : Int32), (32 : Int32), (114 : Int32), (117 : Int32), (110 : Int32), (110 : Int32), (105 : Int32), (110 : Int32), (103 : Int32), (58 : Int32), (32 : Int32), (105 : Int32), (116 : Int32), (32 : Int32), (105 : Int32), (115 : Int32), (32 : Int32), (91 : Int32)]) r3 b bb sts hb1 hb2 38 2 38 78 160 hl3 hsts hc3 (by decide) (by decide) (by decide)) (own_ex (W.ow (i := 1) rfl) fun _ h => h.1) (argsL := [(.ref b)]) (rest := [(.ref t), (.int (409 : Int32)), (.ref xe), (.ref xe)]) rfl rfl pd_30 rfl (own_w hw 59 rfl) (own_w hw 60 rfl) (own_w hw 62 rfl) (own_w hw 61 rfl) (own_w hw 42 rfl) (own_w hw 63 rfl) (by decide) d52_31 (q := 34) rfl rfl (Nat.le_of_ble_eq_true rfl) (Nat.le_of_ble_eq_true rfl) (Nat.le_of_ble_eq_true rfl) (Nat.le_of_ble_eq_true rfl) ?_
  rintro _ _ _ T ⟨v4, r4, rfl, rfl, rfl, hl4, hc4⟩ W
  refine g_ldcH W (vs := enc [(93 : Int32)]) (own_w hw 130 rfl) hS (by decide +kernel) lit_130 (by decide) enc_fits d52_34 (q := 36) rfl (nn := 4) (by decide +kernel) (Nat.le_of_ble_eq_true rfl) (Nat.le_of_ble_eq_true rfl) (Nat.le_of_ble_eq_true rfl) fun q4 bq4 T W => ?_
  have ha1 := own_to ha1 W (fun y hy => .tail _ (.tail _ hy))
  have ha2 := own_to ha2 W (fun y hy => .tail _ (.tail _ hy))
  have hb1 := own_to hb1 W (fun y hy => .tail _ (.tail _ hy))
  have hb2 := own_to hb2 W (fun y hy => .tail _ (.tail _ hy))
  have ht1 := own_to ht1 W (fun y hy => .tail _ (.tail _ hy))
  have ht2 := own_to ht2 W (fun y hy => .tail _ (.tail _ hy))
  have hq01 := own_to hq01 W (fun y hy => .tail _ (.tail _ hy))
  have hq02 := own_to hq02 W (fun y hy => .tail _ (.tail _ hy))
  have hq21 := own_to hq21 W (fun y hy => .tail _ (.tail _ hy))
  have hq22 := own_to hq22 W (fun y hy => .tail _ (.tail _ hy))
  have hq41 := own_mem (x := (q4, ObjC Z "java/lang/String" shStr [.ref bq4, .int (0 : Int32)])) W (.head _)
  have hq42 := own_mem (x := (bq4, ArrC Z .byte (enc [(93 : Int32)]))) W (.tail _ (.head _))
  refine g_virtual W (con_app10 l Z a0 E0 _ _ sb v4 ((((([] : List Int32) ++ [(111 : Int32), (112 : Int32), (101 : Int32), (114 : Int32), (97 : Int32), (116 : Int32), (105 : Int32), (111 : Int32), (110 : Int32), (32 : Int32), (91 : Int32)]) ++ ids) ++ [(93 : Int32), (32 : Int32), (105 : Int32), (115 : Int32), (32 : Int32), (110 : Int32), (111 : Int32), (116 : Int32), (32 : Int32), (114 : Int32), (117 : Int32), (110 : Int32), (110 : Int32), (105 : Int32), (110 : Int32), (103 : Int32), (58 : Int32), (32 : Int32), (105 : Int32), (116 : Int32), (32 : Int32), (105 : Int32), (115 : Int32), (32 : Int32), (91 : Int32)]) ++ sts) r4 q4 bq4 [(93 : Int32)] hq41 hq42 (by decide) 40 1 78 78 160 hl4 rfl hc4 (by decide) (by decide) (by decide)) (own_ex (W.ow (i := 1) rfl) fun _ h => h.1) (argsL := [(.ref q4)]) (rest := [(.ref t), (.int (409 : Int32)), (.ref xe), (.ref xe)]) rfl rfl pd_30 rfl (own_w hw 59 rfl) (own_w hw 60 rfl) (own_w hw 62 rfl) (own_w hw 61 rfl) (own_w hw 42 rfl) (own_w hw 63 rfl) (by decide) d52_36 (q := 39) rfl rfl (Nat.le_of_ble_eq_true rfl) (Nat.le_of_ble_eq_true rfl) (Nat.le_of_ble_eq_true rfl) (Nat.le_of_ble_eq_true rfl) ?_
  rintro _ _ _ T ⟨v5, r5, rfl, rfl, rfl, hl5, hc5⟩ W
  refine g_virtual W (con_tos1 l Z a0 E0 _ _ sb v5 (((((([] : List Int32) ++ [(111 : Int32), (112 : Int32), (101 : Int32), (114 : Int32), (97 : Int32), (116 : Int32), (105 : Int32), (111 : Int32), (110 : Int32), (32 : Int32), (91 : Int32)]) ++ ids) ++ [(93 : Int32), (32 : Int32), (105 : Int32), (115 : Int32), (32 : Int32), (110 : Int32), (111 : Int32), (116 : Int32), (32 : Int32), (114 : Int32), (117 : Int32), (110 : Int32), (110 : Int32), (105 : Int32), (110 : Int32), (103 : Int32), (58 : Int32), (32 : Int32), (105 : Int32), (116 : Int32), (32 : Int32), (105 : Int32), (115 : Int32), (32 : Int32), (91 : Int32)]) ++ sts) ++ [(93 : Int32)]) r5 160 (by omega) (by omega) (by omega) (by decide)) (own_ex (W.ow (i := 1) rfl) fun _ h => h.1) (argsL := []) (rest := [(.ref t), (.int (409 : Int32)), (.ref xe), (.ref xe)]) rfl rfl pd_31 rfl (own_w hw 131 rfl) (own_w hw 132 rfl) (own_w hw 134 rfl) (own_w hw 133 rfl) (own_w hw 42 rfl) (own_w hw 135 rfl) (by decide) d52_39 (q := 42) rfl rfl (Nat.le_of_ble_eq_true rfl) (Nat.le_of_ble_eq_true rfl) (Nat.le_of_ble_eq_true rfl) (Nat.le_of_ble_eq_true rfl) ?_
  rintro _ _ _ T ⟨ms, rfl, rfl, hsub, bm, hm1, hm2⟩ W
  have ha1 := own_to ha1 W (hsub)
  have ha2 := own_to ha2 W (hsub)
  have hb1 := own_to hb1 W (hsub)
  have hb2 := own_to hb2 W (hsub)
  have ht1 := own_to ht1 W (hsub)
  have ht2 := own_to ht2 W (hsub)
  have hq01 := own_to hq01 W (hsub)
  have hq02 := own_to hq02 W (hsub)
  have hq21 := own_to hq21 W (hsub)
  have hq22 := own_to hq22 W (hsub)
  have hq41 := own_to hq41 W (hsub)
  have hq42 := own_to hq42 W (hsub)
  refine g_aloadN W d52_42 (q := 43) rfl rfl rfl ?_
  have W := W.drop 0
  have W := W.drop 0
  refine g_special W (con_aeI l Z a0 E0 hkn hlt O _ xe t ms a _) (argsL := [(.int (409 : Int32)), (.ref t), (.ref ms), (.ref a)]) (rest := [(.ref xe)]) rfl rfl rfl pd_32 rfl (own_w hw 170 rfl) (own_w hw 171 rfl) (own_w hw 33 rfl) (own_w hw 172 rfl) (by decide) d52_43 (q := 46) rfl rfl (Nat.le_of_ble_eq_true rfl) (Nat.le_of_ble_eq_true rfl) (Nat.le_of_ble_eq_true rfl) (Nat.le_of_ble_eq_true rfl) ?_
  rintro _ _ _ T ⟨rfl, rfl, rfl⟩ W
  exact g_retA W rfl rfl rfl d52_46 (Nat.le_of_ble_eq_true rfl) (Nat.le_of_ble_eq_true rfl) ⟨xe, t, ms, bt, bm, rfl, rfl, fun y hy => hsub _ (.tail _ (.tail _ (.tail _ (.tail _ (.tail _ (.tail _ (.tail _ (.tail _ (hy))))))))), ht1, ht2, hm1, hm2⟩
theorem ef_law (m : MethodId) (x0 x1 : Int32) : entryFrame m #[(.int x0), (.int x1)] maxLocals = mkF m 0 #[.val (.int x0), .val (.int x1), .unset, .unset, .unset, .unset, .unset, .unset, .unset, .unset, .unset] [] := by first | (simp [entryFrame, mkF, argsToLocals, Value.category, maxLocals]; done) | rfl
theorem own_strTo {kn : Prop} {p : Program} {l : Launch} {e : Env} {R : Room} {s : State} {m : MethodId} {args : Array Value} {below : List Frame} {meth : Method} {c : Code} {bytes : ByteArray} {maxL : Nat} {ret : Option FieldType} {Z : State} {a0 : Array Value} {EL : List (String × Nat)} {own : String} {T : State} {O P : List Ent} {k n : Nat} {x : Addr} {cs : List Int32} {P' : List Ent} (h : IsStr Z P x cs) (W : Wk kn p l e R s m args below meth c bytes maxL ret Z a0 EL own T O P' k n) (hs : ∀ y ∈ P, y ∈ P') : IsStr Z P' x cs := h.up hs
theorem pd_33 : parseMethodDescriptor "([C)V" = some ⟨[(.array .char)], none⟩ := by decide +kernel
theorem pd_34 : parseMethodDescriptor "(Ljava/lang/String;Ljava/lang/String;)Lcom/example/handover/handover/ApiError;" = some ⟨[(.object "java/lang/String"), (.object "java/lang/String")], (some (.object "com/example/handover/handover/ApiError"))⟩ := by decide +kernel
theorem pd_35 : parseMethodDescriptor "(Ljava/lang/Object;)Z" = some ⟨[(.object "java/lang/Object")], (some .boolean)⟩ := by decide +kernel
theorem pn_19 : plainName "com/example/handover/handover/ApiErrorOperationNotRunningPinLaw" = true := by first | (simp [plainName, overriddenIn]; done) | decide +kernel
set_option maxRecDepth 65536 in
set_option maxHeartbeats 40000000 in
theorem con_law {kn : Prop} (l : Launch) (Z : State) (a0 : Array Value) (E0 : Env0 Z a0) (P : List Ent) (hkn : kn) (hlt : l.stackTraces = true) (x0 x1 : Int32) :
    Con kn l Z EL0 x code maxLocals ret tables_1 room_1 #[.int x0, .int x1] [] P (fun v O' P' => v = some (.int (1 : Int32))) := by
  obtain ⟨hw, hs0, hEL, hS, ⟨cs0, hC0, hcs0⟩, ⟨fv, hFv, hfv⟩, hAD, hHI, hLO, hmore⟩ := id E0
  refine con_intro (plainFor_of_name pn_19) hEL (fun m => ef_law m _ _) ?_
  intro p e s m below meth c T W hnm
  obtain ⟨i0, hi0r, ei0⟩ := own_c16 x0
  obtain ⟨i1, hi1r, ei1⟩ := own_c16 (XT.ushr x0 (16 : Int32))
  obtain ⟨s0, hs0r, es0⟩ := own_c16 x1
  obtain ⟨s1, hs1r, es1⟩ := own_c16 (XT.ushr x1 (16 : Int32))
  refine g_iloadN W at_0 (q := 1) rfl rfl ?_
  refine g_ldcI W (v := (65535 : Int32)) (own_w hw 0 rfl) at_1 (q := 3) rfl ?_
  refine g_iand W at_3 (q := 4) (z := (x0 &&& (65535 : Int32))) rfl rfl ?_
  refine g_i2c W at_4 (q := 5) (z := i0) ei0 rfl ?_
  refine g_istoreN W at_5 (q := 6) (L' := #[.val (.int x0), .val (.int x1), .val (.int i0), .unset, .unset, .unset, .unset, .unset, .unset, .unset, .unset]) rfl rfl ?_
  refine g_iloadN W at_6 (q := 7) rfl rfl ?_
  refine g_bipush W (v := (16 : Int32)) at_7 (q := 9) rfl rfl ?_
  refine g_iushr W at_9 (q := 10) (z := (XT.ushr x0 (16 : Int32))) rfl rfl ?_
  refine g_ldcI W (v := (65535 : Int32)) (own_w hw 0 rfl) at_10 (q := 12) rfl ?_
  refine g_iand W at_12 (q := 13) (z := ((XT.ushr x0 (16 : Int32)) &&& (65535 : Int32))) rfl rfl ?_
  refine g_i2c W at_13 (q := 14) (z := i1) ei1 rfl ?_
  refine g_istoreN W at_14 (q := 15) (L' := #[.val (.int x0), .val (.int x1), .val (.int i0), .val (.int i1), .unset, .unset, .unset, .unset, .unset, .unset, .unset]) rfl rfl ?_
  refine g_iloadN W at_15 (q := 16) rfl rfl ?_
  refine g_ldcI W (v := (65535 : Int32)) (own_w hw 0 rfl) at_16 (q := 18) rfl ?_
  refine g_iand W at_18 (q := 19) (z := (x1 &&& (65535 : Int32))) rfl rfl ?_
  refine g_i2c W at_19 (q := 20) (z := s0) es0 rfl ?_
  refine g_istore W at_20 (q := 22) (L' := #[.val (.int x0), .val (.int x1), .val (.int i0), .val (.int i1), .val (.int s0), .unset, .unset, .unset, .unset, .unset, .unset]) rfl rfl ?_
  refine g_iloadN W at_22 (q := 23) rfl rfl ?_
  refine g_bipush W (v := (16 : Int32)) at_23 (q := 25) rfl rfl ?_
  refine g_iushr W at_25 (q := 26) (z := (XT.ushr x1 (16 : Int32))) rfl rfl ?_
  refine g_ldcI W (v := (65535 : Int32)) (own_w hw 0 rfl) at_26 (q := 28) rfl ?_
  refine g_iand W at_28 (q := 29) (z := ((XT.ushr x1 (16 : Int32)) &&& (65535 : Int32))) rfl rfl ?_
  refine g_i2c W at_29 (q := 30) (z := s1) es1 rfl ?_
  refine g_istore W at_30 (q := 32) (L' := #[.val (.int x0), .val (.int x1), .val (.int i0), .val (.int i1), .val (.int s0), .val (.int s1), .unset, .unset, .unset, .unset, .unset]) rfl rfl ?_
  refine g_new W (shStr_ok hw) shStr_ds (own_w hw 1 rfl) (own_w hw 2 rfl) (own_w hw 3 rfl) at_32 (q := 35) rfl (Nat.le_of_ble_eq_true rfl) (Nat.le_of_ble_eq_true rfl) fun idr T W => ?_
  refine g_dup W at_35 (q := 36) rfl rfl ?_
  refine g_iconst W (v := (2 : Int32)) at_36 (q := 37) rfl rfl ?_
  refine g_newA W (ty := .char) (cap := 2) (vs := [.int 0, .int 0]) rfl (own_w hw 4 rfl) (by decide) (Nat.le_of_ble_eq_true rfl) (Nat.le_of_ble_eq_true rfl) rfl rfl at_37 (q := 39) rfl (Nat.le_of_ble_eq_true rfl) (Nat.le_of_ble_eq_true rfl) fun ia T W => ?_
  refine g_dup W at_39 (q := 40) rfl rfl ?_
  refine g_iconst W (v := (0 : Int32)) at_40 (q := 41) rfl rfl ?_
  refine g_iloadN W at_41 (q := 42) rfl rfl ?_
  refine g_castore W (i := 0) (ii := 0) (y := i0) rfl (by decide) (by decide) rfl (own_narc hi0r) at_42 (q := 43) rfl (vs' := [.int i0, .int 0]) rfl (O' := [(ia, ArrC Z .char [.int i0, .int 0]), (idr, ObjC Z "java/lang/String" shStr [.null, .int 0])]) rfl fun T W => ?_
  refine g_dup W at_43 (q := 44) rfl rfl ?_
  refine g_iconst W (v := (1 : Int32)) at_44 (q := 45) rfl rfl ?_
  refine g_iloadN W at_45 (q := 46) rfl rfl ?_
  refine g_castore W (i := 0) (ii := 1) (y := i1) rfl (by decide) (by decide) rfl (own_narc hi1r) at_46 (q := 47) rfl (vs' := [.int i0, .int i1]) rfl (O' := [(ia, ArrC Z .char [.int i0, .int i1]), (idr, ObjC Z "java/lang/String" shStr [.null, .int 0])]) rfl fun T W => ?_
  have W := W.share (i := 0) rfl
  have hqid : ∀ d ∈ ([i0, i1] : List Int32), 0 ≤ d.toInt ∧ d.toInt < 65536 := by simp [hi0r, hi1r]
  refine g_special W (con_sI1 l Z a0 E0 [] _ idr ia [i0, i1] 2 (Nat.le_refl _) (by decide) (Nat.zero_lt_succ _) hqid (.head _)) (argsL := [(.ref ia)]) (rest := [(.ref idr)]) rfl rfl rfl pd_33 rfl (own_w hw 5 rfl) (own_w hw 6 rfl) (own_w hw 3 rfl) (own_w hw 7 rfl) (by decide) at_47 (q := 50) rfl rfl (Nat.le_of_ble_eq_true rfl) (Nat.le_of_ble_eq_true rfl) (Nat.le_of_ble_eq_true rfl) (Nat.le_of_ble_eq_true rfl) ?_
  rintro _ _ _ T ⟨rfl, rfl, hsubid, hid⟩ W
  refine g_astore W at_50 (q := 52) (L' := #[.val (.int x0), .val (.int x1), .val (.int i0), .val (.int i1), .val (.int s0), .val (.int s1), .val (.ref idr), .unset, .unset, .unset, .unset]) rfl rfl rfl ?_
  refine g_new W (shStr_ok hw) shStr_ds (own_w hw 1 rfl) (own_w hw 2 rfl) (own_w hw 3 rfl) at_52 (q := 55) rfl (Nat.le_of_ble_eq_true rfl) (Nat.le_of_ble_eq_true rfl) fun st T W => ?_
  refine g_dup W at_55 (q := 56) rfl rfl ?_
  refine g_iconst W (v := (2 : Int32)) at_56 (q := 57) rfl rfl ?_
  refine g_newA W (ty := .char) (cap := 2) (vs := [.int 0, .int 0]) rfl (own_w hw 4 rfl) (by decide) (Nat.le_of_ble_eq_true rfl) (Nat.le_of_ble_eq_true rfl) rfl rfl at_57 (q := 59) rfl (Nat.le_of_ble_eq_true rfl) (Nat.le_of_ble_eq_true rfl) fun sa T W => ?_
  refine g_dup W at_59 (q := 60) rfl rfl ?_
  refine g_iconst W (v := (0 : Int32)) at_60 (q := 61) rfl rfl ?_
  refine g_iload W at_61 (q := 63) rfl rfl ?_
  refine g_castore W (i := 0) (ii := 0) (y := s0) rfl (by decide) (by decide) rfl (own_narc hs0r) at_63 (q := 64) rfl (vs' := [.int s0, .int 0]) rfl (O' := [(sa, ArrC Z .char [.int s0, .int 0]), (st, ObjC Z "java/lang/String" shStr [.null, .int 0])]) rfl fun T W => ?_
  refine g_dup W at_64 (q := 65) rfl rfl ?_
  refine g_iconst W (v := (1 : Int32)) at_65 (q := 66) rfl rfl ?_
  refine g_iload W at_66 (q := 68) rfl rfl ?_
  refine g_castore W (i := 0) (ii := 1) (y := s1) rfl (by decide) (by decide) rfl (own_narc hs1r) at_68 (q := 69) rfl (vs' := [.int s0, .int s1]) rfl (O' := [(sa, ArrC Z .char [.int s0, .int s1]), (st, ObjC Z "java/lang/String" shStr [.null, .int 0])]) rfl fun T W => ?_
  have W := W.share (i := 0) rfl
  have hqst : ∀ d ∈ ([s0, s1] : List Int32), 0 ≤ d.toInt ∧ d.toInt < 65536 := by simp [hs0r, hs1r]
  refine g_special W (con_sI1 l Z a0 E0 [] _ st sa [s0, s1] 2 (Nat.le_refl _) (by decide) (Nat.zero_lt_succ _) hqst (.head _)) (argsL := [(.ref sa)]) (rest := [(.ref st)]) rfl rfl rfl pd_33 rfl (own_w hw 5 rfl) (own_w hw 6 rfl) (own_w hw 3 rfl) (own_w hw 7 rfl) (by decide) at_69 (q := 72) rfl rfl (Nat.le_of_ble_eq_true rfl) (Nat.le_of_ble_eq_true rfl) (Nat.le_of_ble_eq_true rfl) (Nat.le_of_ble_eq_true rfl) ?_
  rintro _ _ _ T ⟨rfl, rfl, hsubst, hst⟩ W
  refine g_astore W at_72 (q := 74) (L' := #[.val (.int x0), .val (.int x1), .val (.int i0), .val (.int i1), .val (.int s0), .val (.int s1), .val (.ref idr), .val (.ref st), .unset, .unset, .unset]) rfl rfl rfl ?_
  refine g_bipush W (v := (41 : Int32)) at_74 (q := 76) rfl rfl ?_
  have hid := own_strTo hid W (fun y hy => hsubst _ (.tail _ hy))
  refine g_newA W (ty := .char) (cap := 41) (vs := [.int 0, .int 0, .int 0, .int 0, .int 0, .int 0, .int 0, .int 0, .int 0, .int 0, .int 0, .int 0, .int 0, .int 0, .int 0, .int 0, .int 0, .int 0, .int 0, .int 0, .int 0, .int 0, .int 0, .int 0, .int 0, .int 0, .int 0, .int 0, .int 0, .int 0, .int 0, .int 0, .int 0, .int 0, .int 0, .int 0, .int 0, .int 0, .int 0, .int 0, .int 0]) rfl (own_w hw 4 rfl) (by decide) (Nat.le_of_ble_eq_true rfl) (Nat.le_of_ble_eq_true rfl) rfl rfl at_76 (q := 78) rfl (Nat.le_of_ble_eq_true rfl) (Nat.le_of_ble_eq_true rfl) fun xa T W => ?_
  refine g_dup W at_78 (q := 79) rfl rfl ?_
  refine g_iconst W (v := (0 : Int32)) at_79 (q := 80) rfl rfl ?_
  refine g_bipush W (v := (111 : Int32)) at_80 (q := 82) rfl rfl ?_
  refine g_castore W (i := 0) (ii := 0) (y := (111 : Int32)) rfl (by decide) (by decide) rfl (by decide) at_82 (q := 83) rfl (vs' := [.int (111 : Int32), .int 0, .int 0, .int 0, .int 0, .int 0, .int 0, .int 0, .int 0, .int 0, .int 0, .int 0, .int 0, .int 0, .int 0, .int 0, .int 0, .int 0, .int 0, .int 0, .int 0, .int 0, .int 0, .int 0, .int 0, .int 0, .int 0, .int 0, .int 0, .int 0, .int 0, .int 0, .int 0, .int 0, .int 0, .int 0, .int 0, .int 0, .int 0, .int 0, .int 0]) rfl (O' := [(xa, ArrC Z .char [.int (111 : Int32), .int 0, .int 0, .int 0, .int 0, .int 0, .int 0, .int 0, .int 0, .int 0, .int 0, .int 0, .int 0, .int 0, .int 0, .int 0, .int 0, .int 0, .int 0, .int 0, .int 0, .int 0, .int 0, .int 0, .int 0, .int 0, .int 0, .int 0, .int 0, .int 0, .int 0, .int 0, .int 0, .int 0, .int 0, .int 0, .int 0, .int 0, .int 0, .int 0, .int 0])]) rfl fun T W => ?_
  refine g_dup W at_83 (q := 84) rfl rfl ?_
  refine g_iconst W (v := (1 : Int32)) at_84 (q := 85) rfl rfl ?_
  refine g_bipush W (v := (112 : Int32)) at_85 (q := 87) rfl rfl ?_
  refine g_castore W (i := 0) (ii := 1) (y := (112 : Int32)) rfl (by decide) (by decide) rfl (by decide) at_87 (q := 88) rfl (vs' := [.int (111 : Int32), .int (112 : Int32), .int 0, .int 0, .int 0, .int 0, .int 0, .int 0, .int 0, .int 0, .int 0, .int 0, .int 0, .int 0, .int 0, .int 0, .int 0, .int 0, .int 0, .int 0, .int 0, .int 0, .int 0, .int 0, .int 0, .int 0, .int 0, .int 0, .int 0, .int 0, .int 0, .int 0, .int 0, .int 0, .int 0, .int 0, .int 0, .int 0, .int 0, .int 0, .int 0]) rfl (O' := [(xa, ArrC Z .char [.int (111 : Int32), .int (112 : Int32), .int 0, .int 0, .int 0, .int 0, .int 0, .int 0, .int 0, .int 0, .int 0, .int 0, .int 0, .int 0, .int 0, .int 0, .int 0, .int 0, .int 0, .int 0, .int 0, .int 0, .int 0, .int 0, .int 0, .int 0, .int 0, .int 0, .int 0, .int 0, .int 0, .int 0, .int 0, .int 0, .int 0, .int 0, .int 0, .int 0, .int 0, .int 0, .int 0])]) rfl fun T W => ?_
  refine g_dup W at_88 (q := 89) rfl rfl ?_
  refine g_iconst W (v := (2 : Int32)) at_89 (q := 90) rfl rfl ?_
  refine g_bipush W (v := (101 : Int32)) at_90 (q := 92) rfl rfl ?_
  refine g_castore W (i := 0) (ii := 2) (y := (101 : Int32)) rfl (by decide) (by decide) rfl (by decide) at_92 (q := 93) rfl (vs' := [.int (111 : Int32), .int (112 : Int32), .int (101 : Int32), .int 0, .int 0, .int 0, .int 0, .int 0, .int 0, .int 0, .int 0, .int 0, .int 0, .int 0, .int 0, .int 0, .int 0, .int 0, .int 0, .int 0, .int 0, .int 0, .int 0, .int 0, .int 0, .int 0, .int 0, .int 0, .int 0, .int 0, .int 0, .int 0, .int 0, .int 0, .int 0, .int 0, .int 0, .int 0, .int 0, .int 0, .int 0]) rfl (O' := [(xa, ArrC Z .char [.int (111 : Int32), .int (112 : Int32), .int (101 : Int32), .int 0, .int 0, .int 0, .int 0, .int 0, .int 0, .int 0, .int 0, .int 0, .int 0, .int 0, .int 0, .int 0, .int 0, .int 0, .int 0, .int 0, .int 0, .int 0, .int 0, .int 0, .int 0, .int 0, .int 0, .int 0, .int 0, .int 0, .int 0, .int 0, .int 0, .int 0, .int 0, .int 0, .int 0, .int 0, .int 0, .int 0, .int 0])]) rfl fun T W => ?_
  refine g_dup W at_93 (q := 94) rfl rfl ?_
  refine g_iconst W (v := (3 : Int32)) at_94 (q := 95) rfl rfl ?_
  refine g_bipush W (v := (114 : Int32)) at_95 (q := 97) rfl rfl ?_
  refine g_castore W (i := 0) (ii := 3) (y := (114 : Int32)) rfl (by decide) (by decide) rfl (by decide) at_97 (q := 98) rfl (vs' := [.int (111 : Int32), .int (112 : Int32), .int (101 : Int32), .int (114 : Int32), .int 0, .int 0, .int 0, .int 0, .int 0, .int 0, .int 0, .int 0, .int 0, .int 0, .int 0, .int 0, .int 0, .int 0, .int 0, .int 0, .int 0, .int 0, .int 0, .int 0, .int 0, .int 0, .int 0, .int 0, .int 0, .int 0, .int 0, .int 0, .int 0, .int 0, .int 0, .int 0, .int 0, .int 0, .int 0, .int 0, .int 0]) rfl (O' := [(xa, ArrC Z .char [.int (111 : Int32), .int (112 : Int32), .int (101 : Int32), .int (114 : Int32), .int 0, .int 0, .int 0, .int 0, .int 0, .int 0, .int 0, .int 0, .int 0, .int 0, .int 0, .int 0, .int 0, .int 0, .int 0, .int 0, .int 0, .int 0, .int 0, .int 0, .int 0, .int 0, .int 0, .int 0, .int 0, .int 0, .int 0, .int 0, .int 0, .int 0, .int 0, .int 0, .int 0, .int 0, .int 0, .int 0, .int 0])]) rfl fun T W => ?_
  refine g_dup W at_98 (q := 99) rfl rfl ?_
  refine g_iconst W (v := (4 : Int32)) at_99 (q := 100) rfl rfl ?_
  refine g_bipush W (v := (97 : Int32)) at_100 (q := 102) rfl rfl ?_
  refine g_castore W (i := 0) (ii := 4) (y := (97 : Int32)) rfl (by decide) (by decide) rfl (by decide) at_102 (q := 103) rfl (vs' := [.int (111 : Int32), .int (112 : Int32), .int (101 : Int32), .int (114 : Int32), .int (97 : Int32), .int 0, .int 0, .int 0, .int 0, .int 0, .int 0, .int 0, .int 0, .int 0, .int 0, .int 0, .int 0, .int 0, .int 0, .int 0, .int 0, .int 0, .int 0, .int 0, .int 0, .int 0, .int 0, .int 0, .int 0, .int 0, .int 0, .int 0, .int 0, .int 0, .int 0, .int 0, .int 0, .int 0, .int 0, .int 0, .int 0]) rfl (O' := [(xa, ArrC Z .char [.int (111 : Int32), .int (112 : Int32), .int (101 : Int32), .int (114 : Int32), .int (97 : Int32), .int 0, .int 0, .int 0, .int 0, .int 0, .int 0, .int 0, .int 0, .int 0, .int 0, .int 0, .int 0, .int 0, .int 0, .int 0, .int 0, .int 0, .int 0, .int 0, .int 0, .int 0, .int 0, .int 0, .int 0, .int 0, .int 0, .int 0, .int 0, .int 0, .int 0, .int 0, .int 0, .int 0, .int 0, .int 0, .int 0])]) rfl fun T W => ?_
  refine g_dup W at_103 (q := 104) rfl rfl ?_
  refine g_iconst W (v := (5 : Int32)) at_104 (q := 105) rfl rfl ?_
  refine g_bipush W (v := (116 : Int32)) at_105 (q := 107) rfl rfl ?_
  refine g_castore W (i := 0) (ii := 5) (y := (116 : Int32)) rfl (by decide) (by decide) rfl (by decide) at_107 (q := 108) rfl (vs' := [.int (111 : Int32), .int (112 : Int32), .int (101 : Int32), .int (114 : Int32), .int (97 : Int32), .int (116 : Int32), .int 0, .int 0, .int 0, .int 0, .int 0, .int 0, .int 0, .int 0, .int 0, .int 0, .int 0, .int 0, .int 0, .int 0, .int 0, .int 0, .int 0, .int 0, .int 0, .int 0, .int 0, .int 0, .int 0, .int 0, .int 0, .int 0, .int 0, .int 0, .int 0, .int 0, .int 0, .int 0, .int 0, .int 0, .int 0]) rfl (O' := [(xa, ArrC Z .char [.int (111 : Int32), .int (112 : Int32), .int (101 : Int32), .int (114 : Int32), .int (97 : Int32), .int (116 : Int32), .int 0, .int 0, .int 0, .int 0, .int 0, .int 0, .int 0, .int 0, .int 0, .int 0, .int 0, .int 0, .int 0, .int 0, .int 0, .int 0, .int 0, .int 0, .int 0, .int 0, .int 0, .int 0, .int 0, .int 0, .int 0, .int 0, .int 0, .int 0, .int 0, .int 0, .int 0, .int 0, .int 0, .int 0, .int 0])]) rfl fun T W => ?_
  refine g_dup W at_108 (q := 109) rfl rfl ?_
  refine g_bipush W (v := (6 : Int32)) at_109 (q := 111) rfl rfl ?_
  refine g_bipush W (v := (105 : Int32)) at_111 (q := 113) rfl rfl ?_
  refine g_castore W (i := 0) (ii := 6) (y := (105 : Int32)) rfl (by decide) (by decide) rfl (by decide) at_113 (q := 114) rfl (vs' := [.int (111 : Int32), .int (112 : Int32), .int (101 : Int32), .int (114 : Int32), .int (97 : Int32), .int (116 : Int32), .int (105 : Int32), .int 0, .int 0, .int 0, .int 0, .int 0, .int 0, .int 0, .int 0, .int 0, .int 0, .int 0, .int 0, .int 0, .int 0, .int 0, .int 0, .int 0, .int 0, .int 0, .int 0, .int 0, .int 0, .int 0, .int 0, .int 0, .int 0, .int 0, .int 0, .int 0, .int 0, .int 0, .int 0, .int 0, .int 0]) rfl (O' := [(xa, ArrC Z .char [.int (111 : Int32), .int (112 : Int32), .int (101 : Int32), .int (114 : Int32), .int (97 : Int32), .int (116 : Int32), .int (105 : Int32), .int 0, .int 0, .int 0, .int 0, .int 0, .int 0, .int 0, .int 0, .int 0, .int 0, .int 0, .int 0, .int 0, .int 0, .int 0, .int 0, .int 0, .int 0, .int 0, .int 0, .int 0, .int 0, .int 0, .int 0, .int 0, .int 0, .int 0, .int 0, .int 0, .int 0, .int 0, .int 0, .int 0, .int 0])]) rfl fun T W => ?_
  refine g_dup W at_114 (q := 115) rfl rfl ?_
  refine g_bipush W (v := (7 : Int32)) at_115 (q := 117) rfl rfl ?_
  refine g_bipush W (v := (111 : Int32)) at_117 (q := 119) rfl rfl ?_
  refine g_castore W (i := 0) (ii := 7) (y := (111 : Int32)) rfl (by decide) (by decide) rfl (by decide) at_119 (q := 120) rfl (vs' := [.int (111 : Int32), .int (112 : Int32), .int (101 : Int32), .int (114 : Int32), .int (97 : Int32), .int (116 : Int32), .int (105 : Int32), .int (111 : Int32), .int 0, .int 0, .int 0, .int 0, .int 0, .int 0, .int 0, .int 0, .int 0, .int 0, .int 0, .int 0, .int 0, .int 0, .int 0, .int 0, .int 0, .int 0, .int 0, .int 0, .int 0, .int 0, .int 0, .int 0, .int 0, .int 0, .int 0, .int 0, .int 0, .int 0, .int 0, .int 0, .int 0]) rfl (O' := [(xa, ArrC Z .char [.int (111 : Int32), .int (112 : Int32), .int (101 : Int32), .int (114 : Int32), .int (97 : Int32), .int (116 : Int32), .int (105 : Int32), .int (111 : Int32), .int 0, .int 0, .int 0, .int 0, .int 0, .int 0, .int 0, .int 0, .int 0, .int 0, .int 0, .int 0, .int 0, .int 0, .int 0, .int 0, .int 0, .int 0, .int 0, .int 0, .int 0, .int 0, .int 0, .int 0, .int 0, .int 0, .int 0, .int 0, .int 0, .int 0, .int 0, .int 0, .int 0])]) rfl fun T W => ?_
  refine g_dup W at_120 (q := 121) rfl rfl ?_
  refine g_bipush W (v := (8 : Int32)) at_121 (q := 123) rfl rfl ?_
  refine g_bipush W (v := (110 : Int32)) at_123 (q := 125) rfl rfl ?_
  refine g_castore W (i := 0) (ii := 8) (y := (110 : Int32)) rfl (by decide) (by decide) rfl (by decide) at_125 (q := 126) rfl (vs' := [.int (111 : Int32), .int (112 : Int32), .int (101 : Int32), .int (114 : Int32), .int (97 : Int32), .int (116 : Int32), .int (105 : Int32), .int (111 : Int32), .int (110 : Int32), .int 0, .int 0, .int 0, .int 0, .int 0, .int 0, .int 0, .int 0, .int 0, .int 0, .int 0, .int 0, .int 0, .int 0, .int 0, .int 0, .int 0, .int 0, .int 0, .int 0, .int 0, .int 0, .int 0, .int 0, .int 0, .int 0, .int 0, .int 0, .int 0, .int 0, .int 0, .int 0]) rfl (O' := [(xa, ArrC Z .char [.int (111 : Int32), .int (112 : Int32), .int (101 : Int32), .int (114 : Int32), .int (97 : Int32), .int (116 : Int32), .int (105 : Int32), .int (111 : Int32), .int (110 : Int32), .int 0, .int 0, .int 0, .int 0, .int 0, .int 0, .int 0, .int 0, .int 0, .int 0, .int 0, .int 0, .int 0, .int 0, .int 0, .int 0, .int 0, .int 0, .int 0, .int 0, .int 0, .int 0, .int 0, .int 0, .int 0, .int 0, .int 0, .int 0, .int 0, .int 0, .int 0, .int 0])]) rfl fun T W => ?_
  refine g_dup W at_126 (q := 127) rfl rfl ?_
  refine g_bipush W (v := (9 : Int32)) at_127 (q := 129) rfl rfl ?_
  refine g_bipush W (v := (32 : Int32)) at_129 (q := 131) rfl rfl ?_
  refine g_castore W (i := 0) (ii := 9) (y := (32 : Int32)) rfl (by decide) (by decide) rfl (by decide) at_131 (q := 132) rfl (vs' := [.int (111 : Int32), .int (112 : Int32), .int (101 : Int32), .int (114 : Int32), .int (97 : Int32), .int (116 : Int32), .int (105 : Int32), .int (111 : Int32), .int (110 : Int32), .int (32 : Int32), .int 0, .int 0, .int 0, .int 0, .int 0, .int 0, .int 0, .int 0, .int 0, .int 0, .int 0, .int 0, .int 0, .int 0, .int 0, .int 0, .int 0, .int 0, .int 0, .int 0, .int 0, .int 0, .int 0, .int 0, .int 0, .int 0, .int 0, .int 0, .int 0, .int 0, .int 0]) rfl (O' := [(xa, ArrC Z .char [.int (111 : Int32), .int (112 : Int32), .int (101 : Int32), .int (114 : Int32), .int (97 : Int32), .int (116 : Int32), .int (105 : Int32), .int (111 : Int32), .int (110 : Int32), .int (32 : Int32), .int 0, .int 0, .int 0, .int 0, .int 0, .int 0, .int 0, .int 0, .int 0, .int 0, .int 0, .int 0, .int 0, .int 0, .int 0, .int 0, .int 0, .int 0, .int 0, .int 0, .int 0, .int 0, .int 0, .int 0, .int 0, .int 0, .int 0, .int 0, .int 0, .int 0, .int 0])]) rfl fun T W => ?_
  refine g_dup W at_132 (q := 133) rfl rfl ?_
  refine g_bipush W (v := (10 : Int32)) at_133 (q := 135) rfl rfl ?_
  refine g_bipush W (v := (91 : Int32)) at_135 (q := 137) rfl rfl ?_
  refine g_castore W (i := 0) (ii := 10) (y := (91 : Int32)) rfl (by decide) (by decide) rfl (by decide) at_137 (q := 138) rfl (vs' := [.int (111 : Int32), .int (112 : Int32), .int (101 : Int32), .int (114 : Int32), .int (97 : Int32), .int (116 : Int32), .int (105 : Int32), .int (111 : Int32), .int (110 : Int32), .int (32 : Int32), .int (91 : Int32), .int 0, .int 0, .int 0, .int 0, .int 0, .int 0, .int 0, .int 0, .int 0, .int 0, .int 0, .int 0, .int 0, .int 0, .int 0, .int 0, .int 0, .int 0, .int 0, .int 0, .int 0, .int 0, .int 0, .int 0, .int 0, .int 0, .int 0, .int 0, .int 0, .int 0]) rfl (O' := [(xa, ArrC Z .char [.int (111 : Int32), .int (112 : Int32), .int (101 : Int32), .int (114 : Int32), .int (97 : Int32), .int (116 : Int32), .int (105 : Int32), .int (111 : Int32), .int (110 : Int32), .int (32 : Int32), .int (91 : Int32), .int 0, .int 0, .int 0, .int 0, .int 0, .int 0, .int 0, .int 0, .int 0, .int 0, .int 0, .int 0, .int 0, .int 0, .int 0, .int 0, .int 0, .int 0, .int 0, .int 0, .int 0, .int 0, .int 0, .int 0, .int 0, .int 0, .int 0, .int 0, .int 0, .int 0])]) rfl fun T W => ?_
  refine g_dup W at_138 (q := 139) rfl rfl ?_
  refine g_bipush W (v := (11 : Int32)) at_139 (q := 141) rfl rfl ?_
  refine g_iloadN W at_141 (q := 142) rfl rfl ?_
  refine g_castore W (i := 0) (ii := 11) (y := i0) rfl (by decide) (by decide) rfl (own_narc hi0r) at_142 (q := 143) rfl (vs' := [.int (111 : Int32), .int (112 : Int32), .int (101 : Int32), .int (114 : Int32), .int (97 : Int32), .int (116 : Int32), .int (105 : Int32), .int (111 : Int32), .int (110 : Int32), .int (32 : Int32), .int (91 : Int32), .int i0, .int 0, .int 0, .int 0, .int 0, .int 0, .int 0, .int 0, .int 0, .int 0, .int 0, .int 0, .int 0, .int 0, .int 0, .int 0, .int 0, .int 0, .int 0, .int 0, .int 0, .int 0, .int 0, .int 0, .int 0, .int 0, .int 0, .int 0, .int 0, .int 0]) rfl (O' := [(xa, ArrC Z .char [.int (111 : Int32), .int (112 : Int32), .int (101 : Int32), .int (114 : Int32), .int (97 : Int32), .int (116 : Int32), .int (105 : Int32), .int (111 : Int32), .int (110 : Int32), .int (32 : Int32), .int (91 : Int32), .int i0, .int 0, .int 0, .int 0, .int 0, .int 0, .int 0, .int 0, .int 0, .int 0, .int 0, .int 0, .int 0, .int 0, .int 0, .int 0, .int 0, .int 0, .int 0, .int 0, .int 0, .int 0, .int 0, .int 0, .int 0, .int 0, .int 0, .int 0, .int 0, .int 0])]) rfl fun T W => ?_
  refine g_dup W at_143 (q := 144) rfl rfl ?_
  refine g_bipush W (v := (12 : Int32)) at_144 (q := 146) rfl rfl ?_
  refine g_iloadN W at_146 (q := 147) rfl rfl ?_
  refine g_castore W (i := 0) (ii := 12) (y := i1) rfl (by decide) (by decide) rfl (own_narc hi1r) at_147 (q := 148) rfl (vs' := [.int (111 : Int32), .int (112 : Int32), .int (101 : Int32), .int (114 : Int32), .int (97 : Int32), .int (116 : Int32), .int (105 : Int32), .int (111 : Int32), .int (110 : Int32), .int (32 : Int32), .int (91 : Int32), .int i0, .int i1, .int 0, .int 0, .int 0, .int 0, .int 0, .int 0, .int 0, .int 0, .int 0, .int 0, .int 0, .int 0, .int 0, .int 0, .int 0, .int 0, .int 0, .int 0, .int 0, .int 0, .int 0, .int 0, .int 0, .int 0, .int 0, .int 0, .int 0, .int 0]) rfl (O' := [(xa, ArrC Z .char [.int (111 : Int32), .int (112 : Int32), .int (101 : Int32), .int (114 : Int32), .int (97 : Int32), .int (116 : Int32), .int (105 : Int32), .int (111 : Int32), .int (110 : Int32), .int (32 : Int32), .int (91 : Int32), .int i0, .int i1, .int 0, .int 0, .int 0, .int 0, .int 0, .int 0, .int 0, .int 0, .int 0, .int 0, .int 0, .int 0, .int 0, .int 0, .int 0, .int 0, .int 0, .int 0, .int 0, .int 0, .int 0, .int 0, .int 0, .int 0, .int 0, .int 0, .int 0, .int 0])]) rfl fun T W => ?_
  refine g_dup W at_148 (q := 149) rfl rfl ?_
  refine g_bipush W (v := (13 : Int32)) at_149 (q := 151) rfl rfl ?_
  refine g_bipush W (v := (93 : Int32)) at_151 (q := 153) rfl rfl ?_
  refine g_castore W (i := 0) (ii := 13) (y := (93 : Int32)) rfl (by decide) (by decide) rfl (by decide) at_153 (q := 154) rfl (vs' := [.int (111 : Int32), .int (112 : Int32), .int (101 : Int32), .int (114 : Int32), .int (97 : Int32), .int (116 : Int32), .int (105 : Int32), .int (111 : Int32), .int (110 : Int32), .int (32 : Int32), .int (91 : Int32), .int i0, .int i1, .int (93 : Int32), .int 0, .int 0, .int 0, .int 0, .int 0, .int 0, .int 0, .int 0, .int 0, .int 0, .int 0, .int 0, .int 0, .int 0, .int 0, .int 0, .int 0, .int 0, .int 0, .int 0, .int 0, .int 0, .int 0, .int 0, .int 0, .int 0, .int 0]) rfl (O' := [(xa, ArrC Z .char [.int (111 : Int32), .int (112 : Int32), .int (101 : Int32), .int (114 : Int32), .int (97 : Int32), .int (116 : Int32), .int (105 : Int32), .int (111 : Int32), .int (110 : Int32), .int (32 : Int32), .int (91 : Int32), .int i0, .int i1, .int (93 : Int32), .int 0, .int 0, .int 0, .int 0, .int 0, .int 0, .int 0, .int 0, .int 0, .int 0, .int 0, .int 0, .int 0, .int 0, .int 0, .int 0, .int 0, .int 0, .int 0, .int 0, .int 0, .int 0, .int 0, .int 0, .int 0, .int 0, .int 0])]) rfl fun T W => ?_
  refine g_dup W at_154 (q := 155) rfl rfl ?_
  refine g_bipush W (v := (14 : Int32)) at_155 (q := 157) rfl rfl ?_
  refine g_bipush W (v := (32 : Int32)) at_157 (q := 159) rfl rfl ?_
  refine g_castore W (i := 0) (ii := 14) (y := (32 : Int32)) rfl (by decide) (by decide) rfl (by decide) at_159 (q := 160) rfl (vs' := [.int (111 : Int32), .int (112 : Int32), .int (101 : Int32), .int (114 : Int32), .int (97 : Int32), .int (116 : Int32), .int (105 : Int32), .int (111 : Int32), .int (110 : Int32), .int (32 : Int32), .int (91 : Int32), .int i0, .int i1, .int (93 : Int32), .int (32 : Int32), .int 0, .int 0, .int 0, .int 0, .int 0, .int 0, .int 0, .int 0, .int 0, .int 0, .int 0, .int 0, .int 0, .int 0, .int 0, .int 0, .int 0, .int 0, .int 0, .int 0, .int 0, .int 0, .int 0, .int 0, .int 0, .int 0]) rfl (O' := [(xa, ArrC Z .char [.int (111 : Int32), .int (112 : Int32), .int (101 : Int32), .int (114 : Int32), .int (97 : Int32), .int (116 : Int32), .int (105 : Int32), .int (111 : Int32), .int (110 : Int32), .int (32 : Int32), .int (91 : Int32), .int i0, .int i1, .int (93 : Int32), .int (32 : Int32), .int 0, .int 0, .int 0, .int 0, .int 0, .int 0, .int 0, .int 0, .int 0, .int 0, .int 0, .int 0, .int 0, .int 0, .int 0, .int 0, .int 0, .int 0, .int 0, .int 0, .int 0, .int 0, .int 0, .int 0, .int 0, .int 0])]) rfl fun T W => ?_
  refine g_dup W at_160 (q := 161) rfl rfl ?_
  refine g_bipush W (v := (15 : Int32)) at_161 (q := 163) rfl rfl ?_
  refine g_bipush W (v := (105 : Int32)) at_163 (q := 165) rfl rfl ?_
  refine g_castore W (i := 0) (ii := 15) (y := (105 : Int32)) rfl (by decide) (by decide) rfl (by decide) at_165 (q := 166) rfl (vs' := [.int (111 : Int32), .int (112 : Int32), .int (101 : Int32), .int (114 : Int32), .int (97 : Int32), .int (116 : Int32), .int (105 : Int32), .int (111 : Int32), .int (110 : Int32), .int (32 : Int32), .int (91 : Int32), .int i0, .int i1, .int (93 : Int32), .int (32 : Int32), .int (105 : Int32), .int 0, .int 0, .int 0, .int 0, .int 0, .int 0, .int 0, .int 0, .int 0, .int 0, .int 0, .int 0, .int 0, .int 0, .int 0, .int 0, .int 0, .int 0, .int 0, .int 0, .int 0, .int 0, .int 0, .int 0, .int 0]) rfl (O' := [(xa, ArrC Z .char [.int (111 : Int32), .int (112 : Int32), .int (101 : Int32), .int (114 : Int32), .int (97 : Int32), .int (116 : Int32), .int (105 : Int32), .int (111 : Int32), .int (110 : Int32), .int (32 : Int32), .int (91 : Int32), .int i0, .int i1, .int (93 : Int32), .int (32 : Int32), .int (105 : Int32), .int 0, .int 0, .int 0, .int 0, .int 0, .int 0, .int 0, .int 0, .int 0, .int 0, .int 0, .int 0, .int 0, .int 0, .int 0, .int 0, .int 0, .int 0, .int 0, .int 0, .int 0, .int 0, .int 0, .int 0, .int 0])]) rfl fun T W => ?_
  refine g_dup W at_166 (q := 167) rfl rfl ?_
  refine g_bipush W (v := (16 : Int32)) at_167 (q := 169) rfl rfl ?_
  refine g_bipush W (v := (115 : Int32)) at_169 (q := 171) rfl rfl ?_
  refine g_castore W (i := 0) (ii := 16) (y := (115 : Int32)) rfl (by decide) (by decide) rfl (by decide) at_171 (q := 172) rfl (vs' := [.int (111 : Int32), .int (112 : Int32), .int (101 : Int32), .int (114 : Int32), .int (97 : Int32), .int (116 : Int32), .int (105 : Int32), .int (111 : Int32), .int (110 : Int32), .int (32 : Int32), .int (91 : Int32), .int i0, .int i1, .int (93 : Int32), .int (32 : Int32), .int (105 : Int32), .int (115 : Int32), .int 0, .int 0, .int 0, .int 0, .int 0, .int 0, .int 0, .int 0, .int 0, .int 0, .int 0, .int 0, .int 0, .int 0, .int 0, .int 0, .int 0, .int 0, .int 0, .int 0, .int 0, .int 0, .int 0, .int 0]) rfl (O' := [(xa, ArrC Z .char [.int (111 : Int32), .int (112 : Int32), .int (101 : Int32), .int (114 : Int32), .int (97 : Int32), .int (116 : Int32), .int (105 : Int32), .int (111 : Int32), .int (110 : Int32), .int (32 : Int32), .int (91 : Int32), .int i0, .int i1, .int (93 : Int32), .int (32 : Int32), .int (105 : Int32), .int (115 : Int32), .int 0, .int 0, .int 0, .int 0, .int 0, .int 0, .int 0, .int 0, .int 0, .int 0, .int 0, .int 0, .int 0, .int 0, .int 0, .int 0, .int 0, .int 0, .int 0, .int 0, .int 0, .int 0, .int 0, .int 0])]) rfl fun T W => ?_
  refine g_dup W at_172 (q := 173) rfl rfl ?_
  refine g_bipush W (v := (17 : Int32)) at_173 (q := 175) rfl rfl ?_
  refine g_bipush W (v := (32 : Int32)) at_175 (q := 177) rfl rfl ?_
  refine g_castore W (i := 0) (ii := 17) (y := (32 : Int32)) rfl (by decide) (by decide) rfl (by decide) at_177 (q := 178) rfl (vs' := [.int (111 : Int32), .int (112 : Int32), .int (101 : Int32), .int (114 : Int32), .int (97 : Int32), .int (116 : Int32), .int (105 : Int32), .int (111 : Int32), .int (110 : Int32), .int (32 : Int32), .int (91 : Int32), .int i0, .int i1, .int (93 : Int32), .int (32 : Int32), .int (105 : Int32), .int (115 : Int32), .int (32 : Int32), .int 0, .int 0, .int 0, .int 0, .int 0, .int 0, .int 0, .int 0, .int 0, .int 0, .int 0, .int 0, .int 0, .int 0, .int 0, .int 0, .int 0, .int 0, .int 0, .int 0, .int 0, .int 0, .int 0]) rfl (O' := [(xa, ArrC Z .char [.int (111 : Int32), .int (112 : Int32), .int (101 : Int32), .int (114 : Int32), .int (97 : Int32), .int (116 : Int32), .int (105 : Int32), .int (111 : Int32), .int (110 : Int32), .int (32 : Int32), .int (91 : Int32), .int i0, .int i1, .int (93 : Int32), .int (32 : Int32), .int (105 : Int32), .int (115 : Int32), .int (32 : Int32), .int 0, .int 0, .int 0, .int 0, .int 0, .int 0, .int 0, .int 0, .int 0, .int 0, .int 0, .int 0, .int 0, .int 0, .int 0, .int 0, .int 0, .int 0, .int 0, .int 0, .int 0, .int 0, .int 0])]) rfl fun T W => ?_
  refine g_dup W at_178 (q := 179) rfl rfl ?_
  refine g_bipush W (v := (18 : Int32)) at_179 (q := 181) rfl rfl ?_
  refine g_bipush W (v := (110 : Int32)) at_181 (q := 183) rfl rfl ?_
  refine g_castore W (i := 0) (ii := 18) (y := (110 : Int32)) rfl (by decide) (by decide) rfl (by decide) at_183 (q := 184) rfl (vs' := [.int (111 : Int32), .int (112 : Int32), .int (101 : Int32), .int (114 : Int32), .int (97 : Int32), .int (116 : Int32), .int (105 : Int32), .int (111 : Int32), .int (110 : Int32), .int (32 : Int32), .int (91 : Int32), .int i0, .int i1, .int (93 : Int32), .int (32 : Int32), .int (105 : Int32), .int (115 : Int32), .int (32 : Int32), .int (110 : Int32), .int 0, .int 0, .int 0, .int 0, .int 0, .int 0, .int 0, .int 0, .int 0, .int 0, .int 0, .int 0, .int 0, .int 0, .int 0, .int 0, .int 0, .int 0, .int 0, .int 0, .int 0, .int 0]) rfl (O' := [(xa, ArrC Z .char [.int (111 : Int32), .int (112 : Int32), .int (101 : Int32), .int (114 : Int32), .int (97 : Int32), .int (116 : Int32), .int (105 : Int32), .int (111 : Int32), .int (110 : Int32), .int (32 : Int32), .int (91 : Int32), .int i0, .int i1, .int (93 : Int32), .int (32 : Int32), .int (105 : Int32), .int (115 : Int32), .int (32 : Int32), .int (110 : Int32), .int 0, .int 0, .int 0, .int 0, .int 0, .int 0, .int 0, .int 0, .int 0, .int 0, .int 0, .int 0, .int 0, .int 0, .int 0, .int 0, .int 0, .int 0, .int 0, .int 0, .int 0, .int 0])]) rfl fun T W => ?_
  refine g_dup W at_184 (q := 185) rfl rfl ?_
  refine g_bipush W (v := (19 : Int32)) at_185 (q := 187) rfl rfl ?_
  refine g_bipush W (v := (111 : Int32)) at_187 (q := 189) rfl rfl ?_
  refine g_castore W (i := 0) (ii := 19) (y := (111 : Int32)) rfl (by decide) (by decide) rfl (by decide) at_189 (q := 190) rfl (vs' := [.int (111 : Int32), .int (112 : Int32), .int (101 : Int32), .int (114 : Int32), .int (97 : Int32), .int (116 : Int32), .int (105 : Int32), .int (111 : Int32), .int (110 : Int32), .int (32 : Int32), .int (91 : Int32), .int i0, .int i1, .int (93 : Int32), .int (32 : Int32), .int (105 : Int32), .int (115 : Int32), .int (32 : Int32), .int (110 : Int32), .int (111 : Int32), .int 0, .int 0, .int 0, .int 0, .int 0, .int 0, .int 0, .int 0, .int 0, .int 0, .int 0, .int 0, .int 0, .int 0, .int 0, .int 0, .int 0, .int 0, .int 0, .int 0, .int 0]) rfl (O' := [(xa, ArrC Z .char [.int (111 : Int32), .int (112 : Int32), .int (101 : Int32), .int (114 : Int32), .int (97 : Int32), .int (116 : Int32), .int (105 : Int32), .int (111 : Int32), .int (110 : Int32), .int (32 : Int32), .int (91 : Int32), .int i0, .int i1, .int (93 : Int32), .int (32 : Int32), .int (105 : Int32), .int (115 : Int32), .int (32 : Int32), .int (110 : Int32), .int (111 : Int32), .int 0, .int 0, .int 0, .int 0, .int 0, .int 0, .int 0, .int 0, .int 0, .int 0, .int 0, .int 0, .int 0, .int 0, .int 0, .int 0, .int 0, .int 0, .int 0, .int 0, .int 0])]) rfl fun T W => ?_
  refine g_dup W at_190 (q := 191) rfl rfl ?_
  refine g_bipush W (v := (20 : Int32)) at_191 (q := 193) rfl rfl ?_
  refine g_bipush W (v := (116 : Int32)) at_193 (q := 195) rfl rfl ?_
  refine g_castore W (i := 0) (ii := 20) (y := (116 : Int32)) rfl (by decide) (by decide) rfl (by decide) at_195 (q := 196) rfl (vs' := [.int (111 : Int32), .int (112 : Int32), .int (101 : Int32), .int (114 : Int32), .int (97 : Int32), .int (116 : Int32), .int (105 : Int32), .int (111 : Int32), .int (110 : Int32), .int (32 : Int32), .int (91 : Int32), .int i0, .int i1, .int (93 : Int32), .int (32 : Int32), .int (105 : Int32), .int (115 : Int32), .int (32 : Int32), .int (110 : Int32), .int (111 : Int32), .int (116 : Int32), .int 0, .int 0, .int 0, .int 0, .int 0, .int 0, .int 0, .int 0, .int 0, .int 0, .int 0, .int 0, .int 0, .int 0, .int 0, .int 0, .int 0, .int 0, .int 0, .int 0]) rfl (O' := [(xa, ArrC Z .char [.int (111 : Int32), .int (112 : Int32), .int (101 : Int32), .int (114 : Int32), .int (97 : Int32), .int (116 : Int32), .int (105 : Int32), .int (111 : Int32), .int (110 : Int32), .int (32 : Int32), .int (91 : Int32), .int i0, .int i1, .int (93 : Int32), .int (32 : Int32), .int (105 : Int32), .int (115 : Int32), .int (32 : Int32), .int (110 : Int32), .int (111 : Int32), .int (116 : Int32), .int 0, .int 0, .int 0, .int 0, .int 0, .int 0, .int 0, .int 0, .int 0, .int 0, .int 0, .int 0, .int 0, .int 0, .int 0, .int 0, .int 0, .int 0, .int 0, .int 0])]) rfl fun T W => ?_
  refine g_dup W at_196 (q := 197) rfl rfl ?_
  refine g_bipush W (v := (21 : Int32)) at_197 (q := 199) rfl rfl ?_
  refine g_bipush W (v := (32 : Int32)) at_199 (q := 201) rfl rfl ?_
  refine g_castore W (i := 0) (ii := 21) (y := (32 : Int32)) rfl (by decide) (by decide) rfl (by decide) at_201 (q := 202) rfl (vs' := [.int (111 : Int32), .int (112 : Int32), .int (101 : Int32), .int (114 : Int32), .int (97 : Int32), .int (116 : Int32), .int (105 : Int32), .int (111 : Int32), .int (110 : Int32), .int (32 : Int32), .int (91 : Int32), .int i0, .int i1, .int (93 : Int32), .int (32 : Int32), .int (105 : Int32), .int (115 : Int32), .int (32 : Int32), .int (110 : Int32), .int (111 : Int32), .int (116 : Int32), .int (32 : Int32), .int 0, .int 0, .int 0, .int 0, .int 0, .int 0, .int 0, .int 0, .int 0, .int 0, .int 0, .int 0, .int 0, .int 0, .int 0, .int 0, .int 0, .int 0, .int 0]) rfl (O' := [(xa, ArrC Z .char [.int (111 : Int32), .int (112 : Int32), .int (101 : Int32), .int (114 : Int32), .int (97 : Int32), .int (116 : Int32), .int (105 : Int32), .int (111 : Int32), .int (110 : Int32), .int (32 : Int32), .int (91 : Int32), .int i0, .int i1, .int (93 : Int32), .int (32 : Int32), .int (105 : Int32), .int (115 : Int32), .int (32 : Int32), .int (110 : Int32), .int (111 : Int32), .int (116 : Int32), .int (32 : Int32), .int 0, .int 0, .int 0, .int 0, .int 0, .int 0, .int 0, .int 0, .int 0, .int 0, .int 0, .int 0, .int 0, .int 0, .int 0, .int 0, .int 0, .int 0, .int 0])]) rfl fun T W => ?_
  refine g_dup W at_202 (q := 203) rfl rfl ?_
  refine g_bipush W (v := (22 : Int32)) at_203 (q := 205) rfl rfl ?_
  refine g_bipush W (v := (114 : Int32)) at_205 (q := 207) rfl rfl ?_
  refine g_castore W (i := 0) (ii := 22) (y := (114 : Int32)) rfl (by decide) (by decide) rfl (by decide) at_207 (q := 208) rfl (vs' := [.int (111 : Int32), .int (112 : Int32), .int (101 : Int32), .int (114 : Int32), .int (97 : Int32), .int (116 : Int32), .int (105 : Int32), .int (111 : Int32), .int (110 : Int32), .int (32 : Int32), .int (91 : Int32), .int i0, .int i1, .int (93 : Int32), .int (32 : Int32), .int (105 : Int32), .int (115 : Int32), .int (32 : Int32), .int (110 : Int32), .int (111 : Int32), .int (116 : Int32), .int (32 : Int32), .int (114 : Int32), .int 0, .int 0, .int 0, .int 0, .int 0, .int 0, .int 0, .int 0, .int 0, .int 0, .int 0, .int 0, .int 0, .int 0, .int 0, .int 0, .int 0, .int 0]) rfl (O' := [(xa, ArrC Z .char [.int (111 : Int32), .int (112 : Int32), .int (101 : Int32), .int (114 : Int32), .int (97 : Int32), .int (116 : Int32), .int (105 : Int32), .int (111 : Int32), .int (110 : Int32), .int (32 : Int32), .int (91 : Int32), .int i0, .int i1, .int (93 : Int32), .int (32 : Int32), .int (105 : Int32), .int (115 : Int32), .int (32 : Int32), .int (110 : Int32), .int (111 : Int32), .int (116 : Int32), .int (32 : Int32), .int (114 : Int32), .int 0, .int 0, .int 0, .int 0, .int 0, .int 0, .int 0, .int 0, .int 0, .int 0, .int 0, .int 0, .int 0, .int 0, .int 0, .int 0, .int 0, .int 0])]) rfl fun T W => ?_
  refine g_dup W at_208 (q := 209) rfl rfl ?_
  refine g_bipush W (v := (23 : Int32)) at_209 (q := 211) rfl rfl ?_
  refine g_bipush W (v := (117 : Int32)) at_211 (q := 213) rfl rfl ?_
  refine g_castore W (i := 0) (ii := 23) (y := (117 : Int32)) rfl (by decide) (by decide) rfl (by decide) at_213 (q := 214) rfl (vs' := [.int (111 : Int32), .int (112 : Int32), .int (101 : Int32), .int (114 : Int32), .int (97 : Int32), .int (116 : Int32), .int (105 : Int32), .int (111 : Int32), .int (110 : Int32), .int (32 : Int32), .int (91 : Int32), .int i0, .int i1, .int (93 : Int32), .int (32 : Int32), .int (105 : Int32), .int (115 : Int32), .int (32 : Int32), .int (110 : Int32), .int (111 : Int32), .int (116 : Int32), .int (32 : Int32), .int (114 : Int32), .int (117 : Int32), .int 0, .int 0, .int 0, .int 0, .int 0, .int 0, .int 0, .int 0, .int 0, .int 0, .int 0, .int 0, .int 0, .int 0, .int 0, .int 0, .int 0]) rfl (O' := [(xa, ArrC Z .char [.int (111 : Int32), .int (112 : Int32), .int (101 : Int32), .int (114 : Int32), .int (97 : Int32), .int (116 : Int32), .int (105 : Int32), .int (111 : Int32), .int (110 : Int32), .int (32 : Int32), .int (91 : Int32), .int i0, .int i1, .int (93 : Int32), .int (32 : Int32), .int (105 : Int32), .int (115 : Int32), .int (32 : Int32), .int (110 : Int32), .int (111 : Int32), .int (116 : Int32), .int (32 : Int32), .int (114 : Int32), .int (117 : Int32), .int 0, .int 0, .int 0, .int 0, .int 0, .int 0, .int 0, .int 0, .int 0, .int 0, .int 0, .int 0, .int 0, .int 0, .int 0, .int 0, .int 0])]) rfl fun T W => ?_
  refine g_dup W at_214 (q := 215) rfl rfl ?_
  refine g_bipush W (v := (24 : Int32)) at_215 (q := 217) rfl rfl ?_
  refine g_bipush W (v := (110 : Int32)) at_217 (q := 219) rfl rfl ?_
  refine g_castore W (i := 0) (ii := 24) (y := (110 : Int32)) rfl (by decide) (by decide) rfl (by decide) at_219 (q := 220) rfl (vs' := [.int (111 : Int32), .int (112 : Int32), .int (101 : Int32), .int (114 : Int32), .int (97 : Int32), .int (116 : Int32), .int (105 : Int32), .int (111 : Int32), .int (110 : Int32), .int (32 : Int32), .int (91 : Int32), .int i0, .int i1, .int (93 : Int32), .int (32 : Int32), .int (105 : Int32), .int (115 : Int32), .int (32 : Int32), .int (110 : Int32), .int (111 : Int32), .int (116 : Int32), .int (32 : Int32), .int (114 : Int32), .int (117 : Int32), .int (110 : Int32), .int 0, .int 0, .int 0, .int 0, .int 0, .int 0, .int 0, .int 0, .int 0, .int 0, .int 0, .int 0, .int 0, .int 0, .int 0, .int 0]) rfl (O' := [(xa, ArrC Z .char [.int (111 : Int32), .int (112 : Int32), .int (101 : Int32), .int (114 : Int32), .int (97 : Int32), .int (116 : Int32), .int (105 : Int32), .int (111 : Int32), .int (110 : Int32), .int (32 : Int32), .int (91 : Int32), .int i0, .int i1, .int (93 : Int32), .int (32 : Int32), .int (105 : Int32), .int (115 : Int32), .int (32 : Int32), .int (110 : Int32), .int (111 : Int32), .int (116 : Int32), .int (32 : Int32), .int (114 : Int32), .int (117 : Int32), .int (110 : Int32), .int 0, .int 0, .int 0, .int 0, .int 0, .int 0, .int 0, .int 0, .int 0, .int 0, .int 0, .int 0, .int 0, .int 0, .int 0, .int 0])]) rfl fun T W => ?_
  refine g_dup W at_220 (q := 221) rfl rfl ?_
  refine g_bipush W (v := (25 : Int32)) at_221 (q := 223) rfl rfl ?_
  refine g_bipush W (v := (110 : Int32)) at_223 (q := 225) rfl rfl ?_
  refine g_castore W (i := 0) (ii := 25) (y := (110 : Int32)) rfl (by decide) (by decide) rfl (by decide) at_225 (q := 226) rfl (vs' := [.int (111 : Int32), .int (112 : Int32), .int (101 : Int32), .int (114 : Int32), .int (97 : Int32), .int (116 : Int32), .int (105 : Int32), .int (111 : Int32), .int (110 : Int32), .int (32 : Int32), .int (91 : Int32), .int i0, .int i1, .int (93 : Int32), .int (32 : Int32), .int (105 : Int32), .int (115 : Int32), .int (32 : Int32), .int (110 : Int32), .int (111 : Int32), .int (116 : Int32), .int (32 : Int32), .int (114 : Int32), .int (117 : Int32), .int (110 : Int32), .int (110 : Int32), .int 0, .int 0, .int 0, .int 0, .int 0, .int 0, .int 0, .int 0, .int 0, .int 0, .int 0, .int 0, .int 0, .int 0, .int 0]) rfl (O' := [(xa, ArrC Z .char [.int (111 : Int32), .int (112 : Int32), .int (101 : Int32), .int (114 : Int32), .int (97 : Int32), .int (116 : Int32), .int (105 : Int32), .int (111 : Int32), .int (110 : Int32), .int (32 : Int32), .int (91 : Int32), .int i0, .int i1, .int (93 : Int32), .int (32 : Int32), .int (105 : Int32), .int (115 : Int32), .int (32 : Int32), .int (110 : Int32), .int (111 : Int32), .int (116 : Int32), .int (32 : Int32), .int (114 : Int32), .int (117 : Int32), .int (110 : Int32), .int (110 : Int32), .int 0, .int 0, .int 0, .int 0, .int 0, .int 0, .int 0, .int 0, .int 0, .int 0, .int 0, .int 0, .int 0, .int 0, .int 0])]) rfl fun T W => ?_
  refine g_dup W at_226 (q := 227) rfl rfl ?_
  refine g_bipush W (v := (26 : Int32)) at_227 (q := 229) rfl rfl ?_
  refine g_bipush W (v := (105 : Int32)) at_229 (q := 231) rfl rfl ?_
  refine g_castore W (i := 0) (ii := 26) (y := (105 : Int32)) rfl (by decide) (by decide) rfl (by decide) at_231 (q := 232) rfl (vs' := [.int (111 : Int32), .int (112 : Int32), .int (101 : Int32), .int (114 : Int32), .int (97 : Int32), .int (116 : Int32), .int (105 : Int32), .int (111 : Int32), .int (110 : Int32), .int (32 : Int32), .int (91 : Int32), .int i0, .int i1, .int (93 : Int32), .int (32 : Int32), .int (105 : Int32), .int (115 : Int32), .int (32 : Int32), .int (110 : Int32), .int (111 : Int32), .int (116 : Int32), .int (32 : Int32), .int (114 : Int32), .int (117 : Int32), .int (110 : Int32), .int (110 : Int32), .int (105 : Int32), .int 0, .int 0, .int 0, .int 0, .int 0, .int 0, .int 0, .int 0, .int 0, .int 0, .int 0, .int 0, .int 0, .int 0]) rfl (O' := [(xa, ArrC Z .char [.int (111 : Int32), .int (112 : Int32), .int (101 : Int32), .int (114 : Int32), .int (97 : Int32), .int (116 : Int32), .int (105 : Int32), .int (111 : Int32), .int (110 : Int32), .int (32 : Int32), .int (91 : Int32), .int i0, .int i1, .int (93 : Int32), .int (32 : Int32), .int (105 : Int32), .int (115 : Int32), .int (32 : Int32), .int (110 : Int32), .int (111 : Int32), .int (116 : Int32), .int (32 : Int32), .int (114 : Int32), .int (117 : Int32), .int (110 : Int32), .int (110 : Int32), .int (105 : Int32), .int 0, .int 0, .int 0, .int 0, .int 0, .int 0, .int 0, .int 0, .int 0, .int 0, .int 0, .int 0, .int 0, .int 0])]) rfl fun T W => ?_
  refine g_dup W at_232 (q := 233) rfl rfl ?_
  refine g_bipush W (v := (27 : Int32)) at_233 (q := 235) rfl rfl ?_
  refine g_bipush W (v := (110 : Int32)) at_235 (q := 237) rfl rfl ?_
  refine g_castore W (i := 0) (ii := 27) (y := (110 : Int32)) rfl (by decide) (by decide) rfl (by decide) at_237 (q := 238) rfl (vs' := [.int (111 : Int32), .int (112 : Int32), .int (101 : Int32), .int (114 : Int32), .int (97 : Int32), .int (116 : Int32), .int (105 : Int32), .int (111 : Int32), .int (110 : Int32), .int (32 : Int32), .int (91 : Int32), .int i0, .int i1, .int (93 : Int32), .int (32 : Int32), .int (105 : Int32), .int (115 : Int32), .int (32 : Int32), .int (110 : Int32), .int (111 : Int32), .int (116 : Int32), .int (32 : Int32), .int (114 : Int32), .int (117 : Int32), .int (110 : Int32), .int (110 : Int32), .int (105 : Int32), .int (110 : Int32), .int 0, .int 0, .int 0, .int 0, .int 0, .int 0, .int 0, .int 0, .int 0, .int 0, .int 0, .int 0, .int 0]) rfl (O' := [(xa, ArrC Z .char [.int (111 : Int32), .int (112 : Int32), .int (101 : Int32), .int (114 : Int32), .int (97 : Int32), .int (116 : Int32), .int (105 : Int32), .int (111 : Int32), .int (110 : Int32), .int (32 : Int32), .int (91 : Int32), .int i0, .int i1, .int (93 : Int32), .int (32 : Int32), .int (105 : Int32), .int (115 : Int32), .int (32 : Int32), .int (110 : Int32), .int (111 : Int32), .int (116 : Int32), .int (32 : Int32), .int (114 : Int32), .int (117 : Int32), .int (110 : Int32), .int (110 : Int32), .int (105 : Int32), .int (110 : Int32), .int 0, .int 0, .int 0, .int 0, .int 0, .int 0, .int 0, .int 0, .int 0, .int 0, .int 0, .int 0, .int 0])]) rfl fun T W => ?_
  refine g_dup W at_238 (q := 239) rfl rfl ?_
  refine g_bipush W (v := (28 : Int32)) at_239 (q := 241) rfl rfl ?_
  refine g_bipush W (v := (103 : Int32)) at_241 (q := 243) rfl rfl ?_
  refine g_castore W (i := 0) (ii := 28) (y := (103 : Int32)) rfl (by decide) (by decide) rfl (by decide) at_243 (q := 244) rfl (vs' := [.int (111 : Int32), .int (112 : Int32), .int (101 : Int32), .int (114 : Int32), .int (97 : Int32), .int (116 : Int32), .int (105 : Int32), .int (111 : Int32), .int (110 : Int32), .int (32 : Int32), .int (91 : Int32), .int i0, .int i1, .int (93 : Int32), .int (32 : Int32), .int (105 : Int32), .int (115 : Int32), .int (32 : Int32), .int (110 : Int32), .int (111 : Int32), .int (116 : Int32), .int (32 : Int32), .int (114 : Int32), .int (117 : Int32), .int (110 : Int32), .int (110 : Int32), .int (105 : Int32), .int (110 : Int32), .int (103 : Int32), .int 0, .int 0, .int 0, .int 0, .int 0, .int 0, .int 0, .int 0, .int 0, .int 0, .int 0, .int 0]) rfl (O' := [(xa, ArrC Z .char [.int (111 : Int32), .int (112 : Int32), .int (101 : Int32), .int (114 : Int32), .int (97 : Int32), .int (116 : Int32), .int (105 : Int32), .int (111 : Int32), .int (110 : Int32), .int (32 : Int32), .int (91 : Int32), .int i0, .int i1, .int (93 : Int32), .int (32 : Int32), .int (105 : Int32), .int (115 : Int32), .int (32 : Int32), .int (110 : Int32), .int (111 : Int32), .int (116 : Int32), .int (32 : Int32), .int (114 : Int32), .int (117 : Int32), .int (110 : Int32), .int (110 : Int32), .int (105 : Int32), .int (110 : Int32), .int (103 : Int32), .int 0, .int 0, .int 0, .int 0, .int 0, .int 0, .int 0, .int 0, .int 0, .int 0, .int 0, .int 0])]) rfl fun T W => ?_
  refine g_dup W at_244 (q := 245) rfl rfl ?_
  refine g_bipush W (v := (29 : Int32)) at_245 (q := 247) rfl rfl ?_
  refine g_bipush W (v := (58 : Int32)) at_247 (q := 249) rfl rfl ?_
  refine g_castore W (i := 0) (ii := 29) (y := (58 : Int32)) rfl (by decide) (by decide) rfl (by decide) at_249 (q := 250) rfl (vs' := [.int (111 : Int32), .int (112 : Int32), .int (101 : Int32), .int (114 : Int32), .int (97 : Int32), .int (116 : Int32), .int (105 : Int32), .int (111 : Int32), .int (110 : Int32), .int (32 : Int32), .int (91 : Int32), .int i0, .int i1, .int (93 : Int32), .int (32 : Int32), .int (105 : Int32), .int (115 : Int32), .int (32 : Int32), .int (110 : Int32), .int (111 : Int32), .int (116 : Int32), .int (32 : Int32), .int (114 : Int32), .int (117 : Int32), .int (110 : Int32), .int (110 : Int32), .int (105 : Int32), .int (110 : Int32), .int (103 : Int32), .int (58 : Int32), .int 0, .int 0, .int 0, .int 0, .int 0, .int 0, .int 0, .int 0, .int 0, .int 0, .int 0]) rfl (O' := [(xa, ArrC Z .char [.int (111 : Int32), .int (112 : Int32), .int (101 : Int32), .int (114 : Int32), .int (97 : Int32), .int (116 : Int32), .int (105 : Int32), .int (111 : Int32), .int (110 : Int32), .int (32 : Int32), .int (91 : Int32), .int i0, .int i1, .int (93 : Int32), .int (32 : Int32), .int (105 : Int32), .int (115 : Int32), .int (32 : Int32), .int (110 : Int32), .int (111 : Int32), .int (116 : Int32), .int (32 : Int32), .int (114 : Int32), .int (117 : Int32), .int (110 : Int32), .int (110 : Int32), .int (105 : Int32), .int (110 : Int32), .int (103 : Int32), .int (58 : Int32), .int 0, .int 0, .int 0, .int 0, .int 0, .int 0, .int 0, .int 0, .int 0, .int 0, .int 0])]) rfl fun T W => ?_
  refine g_dup W at_250 (q := 251) rfl rfl ?_
  refine g_bipush W (v := (30 : Int32)) at_251 (q := 253) rfl rfl ?_
  refine g_bipush W (v := (32 : Int32)) at_253 (q := 255) rfl rfl ?_
  refine g_castore W (i := 0) (ii := 30) (y := (32 : Int32)) rfl (by decide) (by decide) rfl (by decide) at_255 (q := 256) rfl (vs' := [.int (111 : Int32), .int (112 : Int32), .int (101 : Int32), .int (114 : Int32), .int (97 : Int32), .int (116 : Int32), .int (105 : Int32), .int (111 : Int32), .int (110 : Int32), .int (32 : Int32), .int (91 : Int32), .int i0, .int i1, .int (93 : Int32), .int (32 : Int32), .int (105 : Int32), .int (115 : Int32), .int (32 : Int32), .int (110 : Int32), .int (111 : Int32), .int (116 : Int32), .int (32 : Int32), .int (114 : Int32), .int (117 : Int32), .int (110 : Int32), .int (110 : Int32), .int (105 : Int32), .int (110 : Int32), .int (103 : Int32), .int (58 : Int32), .int (32 : Int32), .int 0, .int 0, .int 0, .int 0, .int 0, .int 0, .int 0, .int 0, .int 0, .int 0]) rfl (O' := [(xa, ArrC Z .char [.int (111 : Int32), .int (112 : Int32), .int (101 : Int32), .int (114 : Int32), .int (97 : Int32), .int (116 : Int32), .int (105 : Int32), .int (111 : Int32), .int (110 : Int32), .int (32 : Int32), .int (91 : Int32), .int i0, .int i1, .int (93 : Int32), .int (32 : Int32), .int (105 : Int32), .int (115 : Int32), .int (32 : Int32), .int (110 : Int32), .int (111 : Int32), .int (116 : Int32), .int (32 : Int32), .int (114 : Int32), .int (117 : Int32), .int (110 : Int32), .int (110 : Int32), .int (105 : Int32), .int (110 : Int32), .int (103 : Int32), .int (58 : Int32), .int (32 : Int32), .int 0, .int 0, .int 0, .int 0, .int 0, .int 0, .int 0, .int 0, .int 0, .int 0])]) rfl fun T W => ?_
  refine g_dup W at_256 (q := 257) rfl rfl ?_
  refine g_bipush W (v := (31 : Int32)) at_257 (q := 259) rfl rfl ?_
  refine g_bipush W (v := (105 : Int32)) at_259 (q := 261) rfl rfl ?_
  refine g_castore W (i := 0) (ii := 31) (y := (105 : Int32)) rfl (by decide) (by decide) rfl (by decide) at_261 (q := 262) rfl (vs' := [.int (111 : Int32), .int (112 : Int32), .int (101 : Int32), .int (114 : Int32), .int (97 : Int32), .int (116 : Int32), .int (105 : Int32), .int (111 : Int32), .int (110 : Int32), .int (32 : Int32), .int (91 : Int32), .int i0, .int i1, .int (93 : Int32), .int (32 : Int32), .int (105 : Int32), .int (115 : Int32), .int (32 : Int32), .int (110 : Int32), .int (111 : Int32), .int (116 : Int32), .int (32 : Int32), .int (114 : Int32), .int (117 : Int32), .int (110 : Int32), .int (110 : Int32), .int (105 : Int32), .int (110 : Int32), .int (103 : Int32), .int (58 : Int32), .int (32 : Int32), .int (105 : Int32), .int 0, .int 0, .int 0, .int 0, .int 0, .int 0, .int 0, .int 0, .int 0]) rfl (O' := [(xa, ArrC Z .char [.int (111 : Int32), .int (112 : Int32), .int (101 : Int32), .int (114 : Int32), .int (97 : Int32), .int (116 : Int32), .int (105 : Int32), .int (111 : Int32), .int (110 : Int32), .int (32 : Int32), .int (91 : Int32), .int i0, .int i1, .int (93 : Int32), .int (32 : Int32), .int (105 : Int32), .int (115 : Int32), .int (32 : Int32), .int (110 : Int32), .int (111 : Int32), .int (116 : Int32), .int (32 : Int32), .int (114 : Int32), .int (117 : Int32), .int (110 : Int32), .int (110 : Int32), .int (105 : Int32), .int (110 : Int32), .int (103 : Int32), .int (58 : Int32), .int (32 : Int32), .int (105 : Int32), .int 0, .int 0, .int 0, .int 0, .int 0, .int 0, .int 0, .int 0, .int 0])]) rfl fun T W => ?_
  refine g_dup W at_262 (q := 263) rfl rfl ?_
  refine g_bipush W (v := (32 : Int32)) at_263 (q := 265) rfl rfl ?_
  refine g_bipush W (v := (116 : Int32)) at_265 (q := 267) rfl rfl ?_
  refine g_castore W (i := 0) (ii := 32) (y := (116 : Int32)) rfl (by decide) (by decide) rfl (by decide) at_267 (q := 268) rfl (vs' := [.int (111 : Int32), .int (112 : Int32), .int (101 : Int32), .int (114 : Int32), .int (97 : Int32), .int (116 : Int32), .int (105 : Int32), .int (111 : Int32), .int (110 : Int32), .int (32 : Int32), .int (91 : Int32), .int i0, .int i1, .int (93 : Int32), .int (32 : Int32), .int (105 : Int32), .int (115 : Int32), .int (32 : Int32), .int (110 : Int32), .int (111 : Int32), .int (116 : Int32), .int (32 : Int32), .int (114 : Int32), .int (117 : Int32), .int (110 : Int32), .int (110 : Int32), .int (105 : Int32), .int (110 : Int32), .int (103 : Int32), .int (58 : Int32), .int (32 : Int32), .int (105 : Int32), .int (116 : Int32), .int 0, .int 0, .int 0, .int 0, .int 0, .int 0, .int 0, .int 0]) rfl (O' := [(xa, ArrC Z .char [.int (111 : Int32), .int (112 : Int32), .int (101 : Int32), .int (114 : Int32), .int (97 : Int32), .int (116 : Int32), .int (105 : Int32), .int (111 : Int32), .int (110 : Int32), .int (32 : Int32), .int (91 : Int32), .int i0, .int i1, .int (93 : Int32), .int (32 : Int32), .int (105 : Int32), .int (115 : Int32), .int (32 : Int32), .int (110 : Int32), .int (111 : Int32), .int (116 : Int32), .int (32 : Int32), .int (114 : Int32), .int (117 : Int32), .int (110 : Int32), .int (110 : Int32), .int (105 : Int32), .int (110 : Int32), .int (103 : Int32), .int (58 : Int32), .int (32 : Int32), .int (105 : Int32), .int (116 : Int32), .int 0, .int 0, .int 0, .int 0, .int 0, .int 0, .int 0, .int 0])]) rfl fun T W => ?_
  refine g_dup W at_268 (q := 269) rfl rfl ?_
  refine g_bipush W (v := (33 : Int32)) at_269 (q := 271) rfl rfl ?_
  refine g_bipush W (v := (32 : Int32)) at_271 (q := 273) rfl rfl ?_
  refine g_castore W (i := 0) (ii := 33) (y := (32 : Int32)) rfl (by decide) (by decide) rfl (by decide) at_273 (q := 274) rfl (vs' := [.int (111 : Int32), .int (112 : Int32), .int (101 : Int32), .int (114 : Int32), .int (97 : Int32), .int (116 : Int32), .int (105 : Int32), .int (111 : Int32), .int (110 : Int32), .int (32 : Int32), .int (91 : Int32), .int i0, .int i1, .int (93 : Int32), .int (32 : Int32), .int (105 : Int32), .int (115 : Int32), .int (32 : Int32), .int (110 : Int32), .int (111 : Int32), .int (116 : Int32), .int (32 : Int32), .int (114 : Int32), .int (117 : Int32), .int (110 : Int32), .int (110 : Int32), .int (105 : Int32), .int (110 : Int32), .int (103 : Int32), .int (58 : Int32), .int (32 : Int32), .int (105 : Int32), .int (116 : Int32), .int (32 : Int32), .int 0, .int 0, .int 0, .int 0, .int 0, .int 0, .int 0]) rfl (O' := [(xa, ArrC Z .char [.int (111 : Int32), .int (112 : Int32), .int (101 : Int32), .int (114 : Int32), .int (97 : Int32), .int (116 : Int32), .int (105 : Int32), .int (111 : Int32), .int (110 : Int32), .int (32 : Int32), .int (91 : Int32), .int i0, .int i1, .int (93 : Int32), .int (32 : Int32), .int (105 : Int32), .int (115 : Int32), .int (32 : Int32), .int (110 : Int32), .int (111 : Int32), .int (116 : Int32), .int (32 : Int32), .int (114 : Int32), .int (117 : Int32), .int (110 : Int32), .int (110 : Int32), .int (105 : Int32), .int (110 : Int32), .int (103 : Int32), .int (58 : Int32), .int (32 : Int32), .int (105 : Int32), .int (116 : Int32), .int (32 : Int32), .int 0, .int 0, .int 0, .int 0, .int 0, .int 0, .int 0])]) rfl fun T W => ?_
  refine g_dup W at_274 (q := 275) rfl rfl ?_
  refine g_bipush W (v := (34 : Int32)) at_275 (q := 277) rfl rfl ?_
  refine g_bipush W (v := (105 : Int32)) at_277 (q := 279) rfl rfl ?_
  refine g_castore W (i := 0) (ii := 34) (y := (105 : Int32)) rfl (by decide) (by decide) rfl (by decide) at_279 (q := 280) rfl (vs' := [.int (111 : Int32), .int (112 : Int32), .int (101 : Int32), .int (114 : Int32), .int (97 : Int32), .int (116 : Int32), .int (105 : Int32), .int (111 : Int32), .int (110 : Int32), .int (32 : Int32), .int (91 : Int32), .int i0, .int i1, .int (93 : Int32), .int (32 : Int32), .int (105 : Int32), .int (115 : Int32), .int (32 : Int32), .int (110 : Int32), .int (111 : Int32), .int (116 : Int32), .int (32 : Int32), .int (114 : Int32), .int (117 : Int32), .int (110 : Int32), .int (110 : Int32), .int (105 : Int32), .int (110 : Int32), .int (103 : Int32), .int (58 : Int32), .int (32 : Int32), .int (105 : Int32), .int (116 : Int32), .int (32 : Int32), .int (105 : Int32), .int 0, .int 0, .int 0, .int 0, .int 0, .int 0]) rfl (O' := [(xa, ArrC Z .char [.int (111 : Int32), .int (112 : Int32), .int (101 : Int32), .int (114 : Int32), .int (97 : Int32), .int (116 : Int32), .int (105 : Int32), .int (111 : Int32), .int (110 : Int32), .int (32 : Int32), .int (91 : Int32), .int i0, .int i1, .int (93 : Int32), .int (32 : Int32), .int (105 : Int32), .int (115 : Int32), .int (32 : Int32), .int (110 : Int32), .int (111 : Int32), .int (116 : Int32), .int (32 : Int32), .int (114 : Int32), .int (117 : Int32), .int (110 : Int32), .int (110 : Int32), .int (105 : Int32), .int (110 : Int32), .int (103 : Int32), .int (58 : Int32), .int (32 : Int32), .int (105 : Int32), .int (116 : Int32), .int (32 : Int32), .int (105 : Int32), .int 0, .int 0, .int 0, .int 0, .int 0, .int 0])]) rfl fun T W => ?_
  refine g_dup W at_280 (q := 281) rfl rfl ?_
  refine g_bipush W (v := (35 : Int32)) at_281 (q := 283) rfl rfl ?_
  refine g_bipush W (v := (115 : Int32)) at_283 (q := 285) rfl rfl ?_
  refine g_castore W (i := 0) (ii := 35) (y := (115 : Int32)) rfl (by decide) (by decide) rfl (by decide) at_285 (q := 286) rfl (vs' := [.int (111 : Int32), .int (112 : Int32), .int (101 : Int32), .int (114 : Int32), .int (97 : Int32), .int (116 : Int32), .int (105 : Int32), .int (111 : Int32), .int (110 : Int32), .int (32 : Int32), .int (91 : Int32), .int i0, .int i1, .int (93 : Int32), .int (32 : Int32), .int (105 : Int32), .int (115 : Int32), .int (32 : Int32), .int (110 : Int32), .int (111 : Int32), .int (116 : Int32), .int (32 : Int32), .int (114 : Int32), .int (117 : Int32), .int (110 : Int32), .int (110 : Int32), .int (105 : Int32), .int (110 : Int32), .int (103 : Int32), .int (58 : Int32), .int (32 : Int32), .int (105 : Int32), .int (116 : Int32), .int (32 : Int32), .int (105 : Int32), .int (115 : Int32), .int 0, .int 0, .int 0, .int 0, .int 0]) rfl (O' := [(xa, ArrC Z .char [.int (111 : Int32), .int (112 : Int32), .int (101 : Int32), .int (114 : Int32), .int (97 : Int32), .int (116 : Int32), .int (105 : Int32), .int (111 : Int32), .int (110 : Int32), .int (32 : Int32), .int (91 : Int32), .int i0, .int i1, .int (93 : Int32), .int (32 : Int32), .int (105 : Int32), .int (115 : Int32), .int (32 : Int32), .int (110 : Int32), .int (111 : Int32), .int (116 : Int32), .int (32 : Int32), .int (114 : Int32), .int (117 : Int32), .int (110 : Int32), .int (110 : Int32), .int (105 : Int32), .int (110 : Int32), .int (103 : Int32), .int (58 : Int32), .int (32 : Int32), .int (105 : Int32), .int (116 : Int32), .int (32 : Int32), .int (105 : Int32), .int (115 : Int32), .int 0, .int 0, .int 0, .int 0, .int 0])]) rfl fun T W => ?_
  refine g_dup W at_286 (q := 287) rfl rfl ?_
  refine g_bipush W (v := (36 : Int32)) at_287 (q := 289) rfl rfl ?_
  refine g_bipush W (v := (32 : Int32)) at_289 (q := 291) rfl rfl ?_
  refine g_castore W (i := 0) (ii := 36) (y := (32 : Int32)) rfl (by decide) (by decide) rfl (by decide) at_291 (q := 292) rfl (vs' := [.int (111 : Int32), .int (112 : Int32), .int (101 : Int32), .int (114 : Int32), .int (97 : Int32), .int (116 : Int32), .int (105 : Int32), .int (111 : Int32), .int (110 : Int32), .int (32 : Int32), .int (91 : Int32), .int i0, .int i1, .int (93 : Int32), .int (32 : Int32), .int (105 : Int32), .int (115 : Int32), .int (32 : Int32), .int (110 : Int32), .int (111 : Int32), .int (116 : Int32), .int (32 : Int32), .int (114 : Int32), .int (117 : Int32), .int (110 : Int32), .int (110 : Int32), .int (105 : Int32), .int (110 : Int32), .int (103 : Int32), .int (58 : Int32), .int (32 : Int32), .int (105 : Int32), .int (116 : Int32), .int (32 : Int32), .int (105 : Int32), .int (115 : Int32), .int (32 : Int32), .int 0, .int 0, .int 0, .int 0]) rfl (O' := [(xa, ArrC Z .char [.int (111 : Int32), .int (112 : Int32), .int (101 : Int32), .int (114 : Int32), .int (97 : Int32), .int (116 : Int32), .int (105 : Int32), .int (111 : Int32), .int (110 : Int32), .int (32 : Int32), .int (91 : Int32), .int i0, .int i1, .int (93 : Int32), .int (32 : Int32), .int (105 : Int32), .int (115 : Int32), .int (32 : Int32), .int (110 : Int32), .int (111 : Int32), .int (116 : Int32), .int (32 : Int32), .int (114 : Int32), .int (117 : Int32), .int (110 : Int32), .int (110 : Int32), .int (105 : Int32), .int (110 : Int32), .int (103 : Int32), .int (58 : Int32), .int (32 : Int32), .int (105 : Int32), .int (116 : Int32), .int (32 : Int32), .int (105 : Int32), .int (115 : Int32), .int (32 : Int32), .int 0, .int 0, .int 0, .int 0])]) rfl fun T W => ?_
  refine g_dup W at_292 (q := 293) rfl rfl ?_
  refine g_bipush W (v := (37 : Int32)) at_293 (q := 295) rfl rfl ?_
  refine g_bipush W (v := (91 : Int32)) at_295 (q := 297) rfl rfl ?_
  refine g_castore W (i := 0) (ii := 37) (y := (91 : Int32)) rfl (by decide) (by decide) rfl (by decide) at_297 (q := 298) rfl (vs' := [.int (111 : Int32), .int (112 : Int32), .int (101 : Int32), .int (114 : Int32), .int (97 : Int32), .int (116 : Int32), .int (105 : Int32), .int (111 : Int32), .int (110 : Int32), .int (32 : Int32), .int (91 : Int32), .int i0, .int i1, .int (93 : Int32), .int (32 : Int32), .int (105 : Int32), .int (115 : Int32), .int (32 : Int32), .int (110 : Int32), .int (111 : Int32), .int (116 : Int32), .int (32 : Int32), .int (114 : Int32), .int (117 : Int32), .int (110 : Int32), .int (110 : Int32), .int (105 : Int32), .int (110 : Int32), .int (103 : Int32), .int (58 : Int32), .int (32 : Int32), .int (105 : Int32), .int (116 : Int32), .int (32 : Int32), .int (105 : Int32), .int (115 : Int32), .int (32 : Int32), .int (91 : Int32), .int 0, .int 0, .int 0]) rfl (O' := [(xa, ArrC Z .char [.int (111 : Int32), .int (112 : Int32), .int (101 : Int32), .int (114 : Int32), .int (97 : Int32), .int (116 : Int32), .int (105 : Int32), .int (111 : Int32), .int (110 : Int32), .int (32 : Int32), .int (91 : Int32), .int i0, .int i1, .int (93 : Int32), .int (32 : Int32), .int (105 : Int32), .int (115 : Int32), .int (32 : Int32), .int (110 : Int32), .int (111 : Int32), .int (116 : Int32), .int (32 : Int32), .int (114 : Int32), .int (117 : Int32), .int (110 : Int32), .int (110 : Int32), .int (105 : Int32), .int (110 : Int32), .int (103 : Int32), .int (58 : Int32), .int (32 : Int32), .int (105 : Int32), .int (116 : Int32), .int (32 : Int32), .int (105 : Int32), .int (115 : Int32), .int (32 : Int32), .int (91 : Int32), .int 0, .int 0, .int 0])]) rfl fun T W => ?_
  refine g_dup W at_298 (q := 299) rfl rfl ?_
  refine g_bipush W (v := (38 : Int32)) at_299 (q := 301) rfl rfl ?_
  refine g_iload W at_301 (q := 303) rfl rfl ?_
  refine g_castore W (i := 0) (ii := 38) (y := s0) rfl (by decide) (by decide) rfl (own_narc hs0r) at_303 (q := 304) rfl (vs' := [.int (111 : Int32), .int (112 : Int32), .int (101 : Int32), .int (114 : Int32), .int (97 : Int32), .int (116 : Int32), .int (105 : Int32), .int (111 : Int32), .int (110 : Int32), .int (32 : Int32), .int (91 : Int32), .int i0, .int i1, .int (93 : Int32), .int (32 : Int32), .int (105 : Int32), .int (115 : Int32), .int (32 : Int32), .int (110 : Int32), .int (111 : Int32), .int (116 : Int32), .int (32 : Int32), .int (114 : Int32), .int (117 : Int32), .int (110 : Int32), .int (110 : Int32), .int (105 : Int32), .int (110 : Int32), .int (103 : Int32), .int (58 : Int32), .int (32 : Int32), .int (105 : Int32), .int (116 : Int32), .int (32 : Int32), .int (105 : Int32), .int (115 : Int32), .int (32 : Int32), .int (91 : Int32), .int s0, .int 0, .int 0]) rfl (O' := [(xa, ArrC Z .char [.int (111 : Int32), .int (112 : Int32), .int (101 : Int32), .int (114 : Int32), .int (97 : Int32), .int (116 : Int32), .int (105 : Int32), .int (111 : Int32), .int (110 : Int32), .int (32 : Int32), .int (91 : Int32), .int i0, .int i1, .int (93 : Int32), .int (32 : Int32), .int (105 : Int32), .int (115 : Int32), .int (32 : Int32), .int (110 : Int32), .int (111 : Int32), .int (116 : Int32), .int (32 : Int32), .int (114 : Int32), .int (117 : Int32), .int (110 : Int32), .int (110 : Int32), .int (105 : Int32), .int (110 : Int32), .int (103 : Int32), .int (58 : Int32), .int (32 : Int32), .int (105 : Int32), .int (116 : Int32), .int (32 : Int32), .int (105 : Int32), .int (115 : Int32), .int (32 : Int32), .int (91 : Int32), .int s0, .int 0, .int 0])]) rfl fun T W => ?_
  refine g_dup W at_304 (q := 305) rfl rfl ?_
  refine g_bipush W (v := (39 : Int32)) at_305 (q := 307) rfl rfl ?_
  refine g_iload W at_307 (q := 309) rfl rfl ?_
  refine g_castore W (i := 0) (ii := 39) (y := s1) rfl (by decide) (by decide) rfl (own_narc hs1r) at_309 (q := 310) rfl (vs' := [.int (111 : Int32), .int (112 : Int32), .int (101 : Int32), .int (114 : Int32), .int (97 : Int32), .int (116 : Int32), .int (105 : Int32), .int (111 : Int32), .int (110 : Int32), .int (32 : Int32), .int (91 : Int32), .int i0, .int i1, .int (93 : Int32), .int (32 : Int32), .int (105 : Int32), .int (115 : Int32), .int (32 : Int32), .int (110 : Int32), .int (111 : Int32), .int (116 : Int32), .int (32 : Int32), .int (114 : Int32), .int (117 : Int32), .int (110 : Int32), .int (110 : Int32), .int (105 : Int32), .int (110 : Int32), .int (103 : Int32), .int (58 : Int32), .int (32 : Int32), .int (105 : Int32), .int (116 : Int32), .int (32 : Int32), .int (105 : Int32), .int (115 : Int32), .int (32 : Int32), .int (91 : Int32), .int s0, .int s1, .int 0]) rfl (O' := [(xa, ArrC Z .char [.int (111 : Int32), .int (112 : Int32), .int (101 : Int32), .int (114 : Int32), .int (97 : Int32), .int (116 : Int32), .int (105 : Int32), .int (111 : Int32), .int (110 : Int32), .int (32 : Int32), .int (91 : Int32), .int i0, .int i1, .int (93 : Int32), .int (32 : Int32), .int (105 : Int32), .int (115 : Int32), .int (32 : Int32), .int (110 : Int32), .int (111 : Int32), .int (116 : Int32), .int (32 : Int32), .int (114 : Int32), .int (117 : Int32), .int (110 : Int32), .int (110 : Int32), .int (105 : Int32), .int (110 : Int32), .int (103 : Int32), .int (58 : Int32), .int (32 : Int32), .int (105 : Int32), .int (116 : Int32), .int (32 : Int32), .int (105 : Int32), .int (115 : Int32), .int (32 : Int32), .int (91 : Int32), .int s0, .int s1, .int 0])]) rfl fun T W => ?_
  refine g_dup W at_310 (q := 311) rfl rfl ?_
  refine g_bipush W (v := (40 : Int32)) at_311 (q := 313) rfl rfl ?_
  refine g_bipush W (v := (93 : Int32)) at_313 (q := 315) rfl rfl ?_
  refine g_castore W (i := 0) (ii := 40) (y := (93 : Int32)) rfl (by decide) (by decide) rfl (by decide) at_315 (q := 316) rfl (vs' := [.int (111 : Int32), .int (112 : Int32), .int (101 : Int32), .int (114 : Int32), .int (97 : Int32), .int (116 : Int32), .int (105 : Int32), .int (111 : Int32), .int (110 : Int32), .int (32 : Int32), .int (91 : Int32), .int i0, .int i1, .int (93 : Int32), .int (32 : Int32), .int (105 : Int32), .int (115 : Int32), .int (32 : Int32), .int (110 : Int32), .int (111 : Int32), .int (116 : Int32), .int (32 : Int32), .int (114 : Int32), .int (117 : Int32), .int (110 : Int32), .int (110 : Int32), .int (105 : Int32), .int (110 : Int32), .int (103 : Int32), .int (58 : Int32), .int (32 : Int32), .int (105 : Int32), .int (116 : Int32), .int (32 : Int32), .int (105 : Int32), .int (115 : Int32), .int (32 : Int32), .int (91 : Int32), .int s0, .int s1, .int (93 : Int32)]) rfl (O' := [(xa, ArrC Z .char [.int (111 : Int32), .int (112 : Int32), .int (101 : Int32), .int (114 : Int32), .int (97 : Int32), .int (116 : Int32), .int (105 : Int32), .int (111 : Int32), .int (110 : Int32), .int (32 : Int32), .int (91 : Int32), .int i0, .int i1, .int (93 : Int32), .int (32 : Int32), .int (105 : Int32), .int (115 : Int32), .int (32 : Int32), .int (110 : Int32), .int (111 : Int32), .int (116 : Int32), .int (32 : Int32), .int (114 : Int32), .int (117 : Int32), .int (110 : Int32), .int (110 : Int32), .int (105 : Int32), .int (110 : Int32), .int (103 : Int32), .int (58 : Int32), .int (32 : Int32), .int (105 : Int32), .int (116 : Int32), .int (32 : Int32), .int (105 : Int32), .int (115 : Int32), .int (32 : Int32), .int (91 : Int32), .int s0, .int s1, .int (93 : Int32)])]) rfl fun T W => ?_
  refine g_astore W at_316 (q := 318) (L' := #[.val (.int x0), .val (.int x1), .val (.int i0), .val (.int i1), .val (.int s0), .val (.int s1), .val (.ref idr), .val (.ref st), .val (.ref xa), .unset, .unset]) rfl rfl rfl ?_
  have W := W.share (i := 0) rfl
  refine g_new W (shStr_ok hw) shStr_ds (own_w hw 1 rfl) (own_w hw 2 rfl) (own_w hw 3 rfl) at_318 (q := 321) rfl (Nat.le_of_ble_eq_true rfl) (Nat.le_of_ble_eq_true rfl) fun ex T W => ?_
  refine g_dup W at_321 (q := 322) rfl rfl ?_
  refine g_aload W at_322 (q := 324) rfl rfl rfl ?_
  have hqex : ∀ d ∈ ([(111 : Int32), (112 : Int32), (101 : Int32), (114 : Int32), (97 : Int32), (116 : Int32), (105 : Int32), (111 : Int32), (110 : Int32), (32 : Int32), (91 : Int32), i0, i1, (93 : Int32), (32 : Int32), (105 : Int32), (115 : Int32), (32 : Int32), (110 : Int32), (111 : Int32), (116 : Int32), (32 : Int32), (114 : Int32), (117 : Int32), (110 : Int32), (110 : Int32), (105 : Int32), (110 : Int32), (103 : Int32), (58 : Int32), (32 : Int32), (105 : Int32), (116 : Int32), (32 : Int32), (105 : Int32), (115 : Int32), (32 : Int32), (91 : Int32), s0, s1, (93 : Int32)] : List Int32), 0 ≤ d.toInt ∧ d.toInt < 65536 := by simp [hi0r, hi1r, hs0r, hs1r]
  refine g_special W (con_sI1 l Z a0 E0 [] _ ex xa [(111 : Int32), (112 : Int32), (101 : Int32), (114 : Int32), (97 : Int32), (116 : Int32), (105 : Int32), (111 : Int32), (110 : Int32), (32 : Int32), (91 : Int32), i0, i1, (93 : Int32), (32 : Int32), (105 : Int32), (115 : Int32), (32 : Int32), (110 : Int32), (111 : Int32), (116 : Int32), (32 : Int32), (114 : Int32), (117 : Int32), (110 : Int32), (110 : Int32), (105 : Int32), (110 : Int32), (103 : Int32), (58 : Int32), (32 : Int32), (105 : Int32), (116 : Int32), (32 : Int32), (105 : Int32), (115 : Int32), (32 : Int32), (91 : Int32), s0, s1, (93 : Int32)] 41 (Nat.le_refl _) (by decide) (Nat.zero_lt_succ _) hqex (.head _)) (argsL := [(.ref xa)]) (rest := [(.ref ex)]) rfl rfl rfl pd_33 rfl (own_w hw 5 rfl) (own_w hw 6 rfl) (own_w hw 3 rfl) (own_w hw 7 rfl) (by decide) at_324 (q := 327) rfl rfl (Nat.le_of_ble_eq_true rfl) (Nat.le_of_ble_eq_true rfl) (Nat.le_of_ble_eq_true rfl) (Nat.le_of_ble_eq_true rfl) ?_
  rintro _ _ _ T ⟨rfl, rfl, hsubex, hex⟩ W
  have hid := own_strTo hid W (fun y hy => hsubex _ (.tail _ hy))
  have hst := own_strTo hst W (fun y hy => hsubex _ (.tail _ hy))
  refine g_astore W at_327 (q := 329) (L' := #[.val (.int x0), .val (.int x1), .val (.int i0), .val (.int i1), .val (.int s0), .val (.int s1), .val (.ref idr), .val (.ref st), .val (.ref xa), .val (.ref ex), .unset]) rfl rfl rfl ?_
  refine g_aload W at_329 (q := 331) rfl rfl rfl ?_
  refine g_aload W at_331 (q := 333) rfl rfl rfl ?_
  obtain ⟨bi, ⟨li, hi1, hi2⟩ | ⟨li, hi1, hi2⟩⟩ := hid
  · obtain ⟨bs, ⟨ls, hs1, hs2⟩ | ⟨ls, hs1, hs2⟩⟩ := hst
    · obtain ⟨bx, ⟨lx, hx1, hx2⟩ | ⟨lx, hx1, hx2⟩⟩ := hex
      · refine g_static W (con_onr00 l Z a0 E0 hkn hlt [] _ idr bi st bs [i0, i1] [s0, s1] rfl rfl hi1 hi2 hs1 hs2 (own_latR li hqid) (own_latR ls hqst)) (argsL := [(.ref idr), (.ref st)]) (rest := []) rfl rfl pd_34 rfl (own_w hw 31 rfl) (own_w hw 32 rfl) (own_w hw 33 rfl) (own_w hw 34 rfl) (by decide) at_333 (q := 336) rfl rfl (Nat.le_of_ble_eq_true rfl) (Nat.le_of_ble_eq_true rfl) (Nat.le_of_ble_eq_true rfl) (Nat.le_of_ble_eq_true rfl) ?_
        rintro _ _ _ T ⟨xe, t, ms, bt, bm, rfl, rfl, hsub, ht1, ht2, hm1, hm2⟩ W
        have hi1 := own_to hi1 W (hsub)
        have hi2 := own_to hi2 W (hsub)
        have hs1 := own_to hs1 W (hsub)
        have hs2 := own_to hs2 W (hsub)
        have hx1 := own_to hx1 W (hsub)
        have hx2 := own_to hx2 W (hsub)
        refine g_astore W at_336 (q := 338) (L' := #[.val (.int x0), .val (.int x1), .val (.int i0), .val (.int i1), .val (.int s0), .val (.int s1), .val (.ref idr), .val (.ref st), .val (.ref xa), .val (.ref ex), .val (.ref xe)]) rfl rfl rfl ?_
        refine g_aload W at_338 (q := 340) rfl rfl rfl ?_
        refine g_nonnullY W at_340 (q := 345) (by decide) (by decide) ?_
        refine g_aload W at_345 (q := 347) rfl rfl rfl ?_
        refine g_virtual W (con_gst l Z a0 E0 [] _ xe t ms idr _) (own_ex (W.ow (i := 0) rfl) fun _ h => h.1) (argsL := []) (rest := []) rfl rfl pd_20 rfl (own_w hw 233 rfl) (own_w hw 234 rfl) (own_w hw 236 rfl) (own_w hw 235 rfl) (own_w hw 33 rfl) (own_w hw 237 rfl) (by decide) at_347 (q := 350) rfl rfl (Nat.le_of_ble_eq_true rfl) (Nat.le_of_ble_eq_true rfl) (Nat.le_of_ble_eq_true rfl) (Nat.le_of_ble_eq_true rfl) ?_
        rintro _ _ _ T ⟨rfl, rfl, rfl⟩ W
        refine g_sipush W (v := (409 : Int32)) at_350 (q := 353) rfl rfl ?_
        refine g_icN W at_353 (q := 356) (XT.ii_ne_f (by decide)) rfl ?_
        refine g_ldcH W (vs := enc [(111 : Int32), (112 : Int32), (101 : Int32), (114 : Int32), (97 : Int32), (116 : Int32), (105 : Int32), (111 : Int32), (110 : Int32), (95 : Int32), (110 : Int32), (111 : Int32), (116 : Int32), (95 : Int32), (114 : Int32), (117 : Int32), (110 : Int32), (110 : Int32), (105 : Int32), (110 : Int32), (103 : Int32)]) (own_w hw 238 rfl) hS (by decide +kernel) lit_238 (by decide) enc_fits at_356 (q := 358) rfl (nn := 84) (by decide +kernel) (Nat.le_of_ble_eq_true rfl) (Nat.le_of_ble_eq_true rfl) (Nat.le_of_ble_eq_true rfl) fun tl btl T W => ?_
        have hi1 := own_to hi1 W (fun y hy => .tail _ (.tail _ hy))
        have hi2 := own_to hi2 W (fun y hy => .tail _ (.tail _ hy))
        have hs1 := own_to hs1 W (fun y hy => .tail _ (.tail _ hy))
        have hs2 := own_to hs2 W (fun y hy => .tail _ (.tail _ hy))
        have hx1 := own_to hx1 W (fun y hy => .tail _ (.tail _ hy))
        have hx2 := own_to hx2 W (fun y hy => .tail _ (.tail _ hy))
        have ht1 := own_to ht1 W (fun y hy => .tail _ (.tail _ hy))
        have ht2 := own_to ht2 W (fun y hy => .tail _ (.tail _ hy))
        have hm1 := own_to hm1 W (fun y hy => .tail _ (.tail _ hy))
        have hm2 := own_to hm2 W (fun y hy => .tail _ (.tail _ hy))
        have htl1 := own_mem (x := (tl, ObjC Z "java/lang/String" shStr [.ref btl, .int (0 : Int32)])) W (.head _)
        have htl2 := own_mem (x := (btl, ArrC Z .byte (enc [(111 : Int32), (112 : Int32), (101 : Int32), (114 : Int32), (97 : Int32), (116 : Int32), (105 : Int32), (111 : Int32), (110 : Int32), (95 : Int32), (110 : Int32), (111 : Int32), (116 : Int32), (95 : Int32), (114 : Int32), (117 : Int32), (110 : Int32), (110 : Int32), (105 : Int32), (110 : Int32), (103 : Int32)]))) W (.tail _ (.head _))
        refine g_aload W at_358 (q := 360) rfl rfl rfl ?_
        refine g_virtual W (con_gty l Z a0 E0 [] _ xe t ms idr _) (own_ex (W.ow (i := 0) rfl) fun _ h => h.1) (argsL := []) (rest := [(.ref tl)]) rfl rfl pd_31 rfl (own_w hw 239 rfl) (own_w hw 240 rfl) (own_w hw 242 rfl) (own_w hw 241 rfl) (own_w hw 33 rfl) (own_w hw 243 rfl) (by decide) at_360 (q := 363) rfl rfl (Nat.le_of_ble_eq_true rfl) (Nat.le_of_ble_eq_true rfl) (Nat.le_of_ble_eq_true rfl) (Nat.le_of_ble_eq_true rfl) ?_
        rintro _ _ _ T ⟨rfl, rfl, rfl⟩ W
        refine g_virtual W (con_seq0 l Z a0 E0 _ _ tl t btl bt [(111 : Int32), (112 : Int32), (101 : Int32), (114 : Int32), (97 : Int32), (116 : Int32), (105 : Int32), (111 : Int32), (110 : Int32), (95 : Int32), (110 : Int32), (111 : Int32), (116 : Int32), (95 : Int32), (114 : Int32), (117 : Int32), (110 : Int32), (110 : Int32), (105 : Int32), (110 : Int32), (103 : Int32)] (by decide) htl1 htl2 ht1 ht2) (own_ex (W.rd htl1) fun _ h => h.1) (argsL := [(.ref t)]) (rest := []) rfl rfl pd_35 rfl (own_w hw 244 rfl) (own_w hw 245 rfl) (own_w hw 247 rfl) (own_w hw 246 rfl) (own_w hw 3 rfl) (own_w hw 248 rfl) (by decide) at_363 (q := 366) rfl rfl (Nat.le_of_ble_eq_true rfl) (Nat.le_of_ble_eq_true rfl) (Nat.le_of_ble_eq_true rfl) (Nat.le_of_ble_eq_true rfl) ?_
        rintro _ _ _ T ⟨rfl, rfl, rfl⟩ W
        refine g_ifN W at_366 (q := 369) (XT.i0_eq_f (by decide)) rfl ?_
        refine g_aload W at_369 (q := 371) rfl rfl rfl ?_
        refine g_aload W at_371 (q := 373) rfl rfl rfl ?_
        refine g_virtual W (con_gop l Z a0 E0 [] _ xe t ms idr _) (own_ex (W.ow (i := 0) rfl) fun _ h => h.1) (argsL := []) (rest := [(.ref idr)]) rfl rfl pd_31 rfl (own_w hw 249 rfl) (own_w hw 250 rfl) (own_w hw 252 rfl) (own_w hw 251 rfl) (own_w hw 33 rfl) (own_w hw 253 rfl) (by decide) at_373 (q := 376) rfl rfl (Nat.le_of_ble_eq_true rfl) (Nat.le_of_ble_eq_true rfl) (Nat.le_of_ble_eq_true rfl) (Nat.le_of_ble_eq_true rfl) ?_
        rintro _ _ _ T ⟨rfl, rfl, rfl⟩ W
        refine g_virtual W (con_seq0 l Z a0 E0 _ _ idr idr bi bi [i0, i1] (by simp) hi1 hi2 hi1 hi2) (own_ex (W.rd hi1) fun _ h => h.1) (argsL := [(.ref idr)]) (rest := []) rfl rfl pd_35 rfl (own_w hw 244 rfl) (own_w hw 245 rfl) (own_w hw 247 rfl) (own_w hw 246 rfl) (own_w hw 3 rfl) (own_w hw 248 rfl) (by decide) at_376 (q := 379) rfl rfl (Nat.le_of_ble_eq_true rfl) (Nat.le_of_ble_eq_true rfl) (Nat.le_of_ble_eq_true rfl) (Nat.le_of_ble_eq_true rfl) ?_
        rintro _ _ _ T ⟨rfl, rfl, rfl⟩ W
        refine g_ifN W at_379 (q := 382) (XT.i0_eq_f (by decide)) rfl ?_
        refine g_aload W at_382 (q := 384) rfl rfl rfl ?_
        refine g_aload W at_384 (q := 386) rfl rfl rfl ?_
        refine g_virtualUp (x := ⟨"com/example/handover/handover/ApiError", "getMessage", "()Ljava/lang/String;"⟩) W (con_gms l Z a0 E0 [] _ xe t ms idr _) (owner := "java/lang/Throwable") (own_ex (W.ow (i := 0) rfl) fun _ h => h.1) (argsL := []) (rest := [(.ref ex)]) rfl rfl pd_31 rfl (own_w hw 254 rfl) (own_w hw 255 rfl) (own_w hw 256 rfl) (own_w hw 258 rfl) (own_w hw 257 rfl) (own_w hw 188 rfl) (own_w hw 259 rfl) (by decide) at_386 (q := 389) rfl rfl (Nat.le_of_ble_eq_true rfl) (Nat.le_of_ble_eq_true rfl) (Nat.le_of_ble_eq_true rfl) (Nat.le_of_ble_eq_true rfl) ?_
        rintro _ _ _ T ⟨rfl, rfl, rfl⟩ W
        refine g_virtual W (con_seq0 l Z a0 E0 _ _ ex ms bx bm [(111 : Int32), (112 : Int32), (101 : Int32), (114 : Int32), (97 : Int32), (116 : Int32), (105 : Int32), (111 : Int32), (110 : Int32), (32 : Int32), (91 : Int32), i0, i1, (93 : Int32), (32 : Int32), (105 : Int32), (115 : Int32), (32 : Int32), (110 : Int32), (111 : Int32), (116 : Int32), (32 : Int32), (114 : Int32), (117 : Int32), (110 : Int32), (110 : Int32), (105 : Int32), (110 : Int32), (103 : Int32), (58 : Int32), (32 : Int32), (105 : Int32), (116 : Int32), (32 : Int32), (105 : Int32), (115 : Int32), (32 : Int32), (91 : Int32), s0, s1, (93 : Int32)] (by simp) hx1 hx2 hm1 hm2) (own_ex (W.rd hx1) fun _ h => h.1) (argsL := [(.ref ms)]) (rest := []) rfl rfl pd_35 rfl (own_w hw 244 rfl) (own_w hw 245 rfl) (own_w hw 247 rfl) (own_w hw 246 rfl) (own_w hw 3 rfl) (own_w hw 248 rfl) (by decide) at_389 (q := 392) rfl rfl (Nat.le_of_ble_eq_true rfl) (Nat.le_of_ble_eq_true rfl) (Nat.le_of_ble_eq_true rfl) (Nat.le_of_ble_eq_true rfl) ?_
        rintro _ _ _ T ⟨rfl, rfl, rfl⟩ W
        refine g_ifN W at_392 (q := 395) (XT.i0_eq_f (by decide)) rfl ?_
        refine g_iconst W (v := (1 : Int32)) at_395 (q := 396) rfl rfl ?_
        refine g_goto W at_396 (q := 400) (by decide) (by decide) ?_
        exact g_retI W rfl (Or.inr (Or.inl rfl)) rfl at_400 (Nat.le_of_ble_eq_true rfl) (Nat.le_of_ble_eq_true rfl) rfl
      · exact absurd (show Lat ((((([] ++ [(111 : Int32), (112 : Int32), (101 : Int32), (114 : Int32), (97 : Int32), (116 : Int32), (105 : Int32), (111 : Int32), (110 : Int32), (32 : Int32), (91 : Int32)]) ++ [i0, i1]) ++ [(93 : Int32), (32 : Int32), (105 : Int32), (115 : Int32), (32 : Int32), (110 : Int32), (111 : Int32), (116 : Int32), (32 : Int32), (114 : Int32), (117 : Int32), (110 : Int32), (110 : Int32), (105 : Int32), (110 : Int32), (103 : Int32), (58 : Int32), (32 : Int32), (105 : Int32), (116 : Int32), (32 : Int32), (105 : Int32), (115 : Int32), (32 : Int32), (91 : Int32)]) ++ [s0, s1]) ++ [(93 : Int32)]) from own_lapp (own_lapp (own_lapp (own_lapp (own_lapp lat_nil (own_latMem.mpr (by decide))) li) (own_latMem.mpr (by decide))) ls) (own_latMem.mpr (by decide))) lx
    · obtain ⟨bx, ⟨lx, hx1, hx2⟩ | ⟨lx, hx1, hx2⟩⟩ := hex
      · exact absurd (own_lappR (own_lappL (show Lat ((((([] ++ [(111 : Int32), (112 : Int32), (101 : Int32), (114 : Int32), (97 : Int32), (116 : Int32), (105 : Int32), (111 : Int32), (110 : Int32), (32 : Int32), (91 : Int32)]) ++ [i0, i1]) ++ [(93 : Int32), (32 : Int32), (105 : Int32), (115 : Int32), (32 : Int32), (110 : Int32), (111 : Int32), (116 : Int32), (32 : Int32), (114 : Int32), (117 : Int32), (110 : Int32), (110 : Int32), (105 : Int32), (110 : Int32), (103 : Int32), (58 : Int32), (32 : Int32), (105 : Int32), (116 : Int32), (32 : Int32), (105 : Int32), (115 : Int32), (32 : Int32), (91 : Int32)]) ++ [s0, s1]) ++ [(93 : Int32)]) from lx))) ls
      · refine g_static W (con_onr01 l Z a0 E0 hkn hlt [] _ idr bi st bs [i0, i1] [s0, s1] rfl rfl hi1 hi2 hs1 hs2 (own_latR li hqid)) (argsL := [(.ref idr), (.ref st)]) (rest := []) rfl rfl pd_34 rfl (own_w hw 31 rfl) (own_w hw 32 rfl) (own_w hw 33 rfl) (own_w hw 34 rfl) (by decide) at_333 (q := 336) rfl rfl (Nat.le_of_ble_eq_true rfl) (Nat.le_of_ble_eq_true rfl) (Nat.le_of_ble_eq_true rfl) (Nat.le_of_ble_eq_true rfl) ?_
        rintro _ _ _ T ⟨xe, t, ms, bt, bm, rfl, rfl, hsub, ht1, ht2, hm1, hm2⟩ W
        have hi1 := own_to hi1 W (hsub)
        have hi2 := own_to hi2 W (hsub)
        have hs1 := own_to hs1 W (hsub)
        have hs2 := own_to hs2 W (hsub)
        have hx1 := own_to hx1 W (hsub)
        have hx2 := own_to hx2 W (hsub)
        refine g_astore W at_336 (q := 338) (L' := #[.val (.int x0), .val (.int x1), .val (.int i0), .val (.int i1), .val (.int s0), .val (.int s1), .val (.ref idr), .val (.ref st), .val (.ref xa), .val (.ref ex), .val (.ref xe)]) rfl rfl rfl ?_
        refine g_aload W at_338 (q := 340) rfl rfl rfl ?_
        refine g_nonnullY W at_340 (q := 345) (by decide) (by decide) ?_
        refine g_aload W at_345 (q := 347) rfl rfl rfl ?_
        refine g_virtual W (con_gst l Z a0 E0 [] _ xe t ms idr _) (own_ex (W.ow (i := 0) rfl) fun _ h => h.1) (argsL := []) (rest := []) rfl rfl pd_20 rfl (own_w hw 233 rfl) (own_w hw 234 rfl) (own_w hw 236 rfl) (own_w hw 235 rfl) (own_w hw 33 rfl) (own_w hw 237 rfl) (by decide) at_347 (q := 350) rfl rfl (Nat.le_of_ble_eq_true rfl) (Nat.le_of_ble_eq_true rfl) (Nat.le_of_ble_eq_true rfl) (Nat.le_of_ble_eq_true rfl) ?_
        rintro _ _ _ T ⟨rfl, rfl, rfl⟩ W
        refine g_sipush W (v := (409 : Int32)) at_350 (q := 353) rfl rfl ?_
        refine g_icN W at_353 (q := 356) (XT.ii_ne_f (by decide)) rfl ?_
        refine g_ldcH W (vs := enc [(111 : Int32), (112 : Int32), (101 : Int32), (114 : Int32), (97 : Int32), (116 : Int32), (105 : Int32), (111 : Int32), (110 : Int32), (95 : Int32), (110 : Int32), (111 : Int32), (116 : Int32), (95 : Int32), (114 : Int32), (117 : Int32), (110 : Int32), (110 : Int32), (105 : Int32), (110 : Int32), (103 : Int32)]) (own_w hw 238 rfl) hS (by decide +kernel) lit_238 (by decide) enc_fits at_356 (q := 358) rfl (nn := 84) (by decide +kernel) (Nat.le_of_ble_eq_true rfl) (Nat.le_of_ble_eq_true rfl) (Nat.le_of_ble_eq_true rfl) fun tl btl T W => ?_
        have hi1 := own_to hi1 W (fun y hy => .tail _ (.tail _ hy))
        have hi2 := own_to hi2 W (fun y hy => .tail _ (.tail _ hy))
        have hs1 := own_to hs1 W (fun y hy => .tail _ (.tail _ hy))
        have hs2 := own_to hs2 W (fun y hy => .tail _ (.tail _ hy))
        have hx1 := own_to hx1 W (fun y hy => .tail _ (.tail _ hy))
        have hx2 := own_to hx2 W (fun y hy => .tail _ (.tail _ hy))
        have ht1 := own_to ht1 W (fun y hy => .tail _ (.tail _ hy))
        have ht2 := own_to ht2 W (fun y hy => .tail _ (.tail _ hy))
        have hm1 := own_to hm1 W (fun y hy => .tail _ (.tail _ hy))
        have hm2 := own_to hm2 W (fun y hy => .tail _ (.tail _ hy))
        have htl1 := own_mem (x := (tl, ObjC Z "java/lang/String" shStr [.ref btl, .int (0 : Int32)])) W (.head _)
        have htl2 := own_mem (x := (btl, ArrC Z .byte (enc [(111 : Int32), (112 : Int32), (101 : Int32), (114 : Int32), (97 : Int32), (116 : Int32), (105 : Int32), (111 : Int32), (110 : Int32), (95 : Int32), (110 : Int32), (111 : Int32), (116 : Int32), (95 : Int32), (114 : Int32), (117 : Int32), (110 : Int32), (110 : Int32), (105 : Int32), (110 : Int32), (103 : Int32)]))) W (.tail _ (.head _))
        refine g_aload W at_358 (q := 360) rfl rfl rfl ?_
        refine g_virtual W (con_gty l Z a0 E0 [] _ xe t ms idr _) (own_ex (W.ow (i := 0) rfl) fun _ h => h.1) (argsL := []) (rest := [(.ref tl)]) rfl rfl pd_31 rfl (own_w hw 239 rfl) (own_w hw 240 rfl) (own_w hw 242 rfl) (own_w hw 241 rfl) (own_w hw 33 rfl) (own_w hw 243 rfl) (by decide) at_360 (q := 363) rfl rfl (Nat.le_of_ble_eq_true rfl) (Nat.le_of_ble_eq_true rfl) (Nat.le_of_ble_eq_true rfl) (Nat.le_of_ble_eq_true rfl) ?_
        rintro _ _ _ T ⟨rfl, rfl, rfl⟩ W
        refine g_virtual W (con_seq0 l Z a0 E0 _ _ tl t btl bt [(111 : Int32), (112 : Int32), (101 : Int32), (114 : Int32), (97 : Int32), (116 : Int32), (105 : Int32), (111 : Int32), (110 : Int32), (95 : Int32), (110 : Int32), (111 : Int32), (116 : Int32), (95 : Int32), (114 : Int32), (117 : Int32), (110 : Int32), (110 : Int32), (105 : Int32), (110 : Int32), (103 : Int32)] (by decide) htl1 htl2 ht1 ht2) (own_ex (W.rd htl1) fun _ h => h.1) (argsL := [(.ref t)]) (rest := []) rfl rfl pd_35 rfl (own_w hw 244 rfl) (own_w hw 245 rfl) (own_w hw 247 rfl) (own_w hw 246 rfl) (own_w hw 3 rfl) (own_w hw 248 rfl) (by decide) at_363 (q := 366) rfl rfl (Nat.le_of_ble_eq_true rfl) (Nat.le_of_ble_eq_true rfl) (Nat.le_of_ble_eq_true rfl) (Nat.le_of_ble_eq_true rfl) ?_
        rintro _ _ _ T ⟨rfl, rfl, rfl⟩ W
        refine g_ifN W at_366 (q := 369) (XT.i0_eq_f (by decide)) rfl ?_
        refine g_aload W at_369 (q := 371) rfl rfl rfl ?_
        refine g_aload W at_371 (q := 373) rfl rfl rfl ?_
        refine g_virtual W (con_gop l Z a0 E0 [] _ xe t ms idr _) (own_ex (W.ow (i := 0) rfl) fun _ h => h.1) (argsL := []) (rest := [(.ref idr)]) rfl rfl pd_31 rfl (own_w hw 249 rfl) (own_w hw 250 rfl) (own_w hw 252 rfl) (own_w hw 251 rfl) (own_w hw 33 rfl) (own_w hw 253 rfl) (by decide) at_373 (q := 376) rfl rfl (Nat.le_of_ble_eq_true rfl) (Nat.le_of_ble_eq_true rfl) (Nat.le_of_ble_eq_true rfl) (Nat.le_of_ble_eq_true rfl) ?_
        rintro _ _ _ T ⟨rfl, rfl, rfl⟩ W
        refine g_virtual W (con_seq0 l Z a0 E0 _ _ idr idr bi bi [i0, i1] (by simp) hi1 hi2 hi1 hi2) (own_ex (W.rd hi1) fun _ h => h.1) (argsL := [(.ref idr)]) (rest := []) rfl rfl pd_35 rfl (own_w hw 244 rfl) (own_w hw 245 rfl) (own_w hw 247 rfl) (own_w hw 246 rfl) (own_w hw 3 rfl) (own_w hw 248 rfl) (by decide) at_376 (q := 379) rfl rfl (Nat.le_of_ble_eq_true rfl) (Nat.le_of_ble_eq_true rfl) (Nat.le_of_ble_eq_true rfl) (Nat.le_of_ble_eq_true rfl) ?_
        rintro _ _ _ T ⟨rfl, rfl, rfl⟩ W
        refine g_ifN W at_379 (q := 382) (XT.i0_eq_f (by decide)) rfl ?_
        refine g_aload W at_382 (q := 384) rfl rfl rfl ?_
        refine g_aload W at_384 (q := 386) rfl rfl rfl ?_
        refine g_virtualUp (x := ⟨"com/example/handover/handover/ApiError", "getMessage", "()Ljava/lang/String;"⟩) W (con_gms l Z a0 E0 [] _ xe t ms idr _) (owner := "java/lang/Throwable") (own_ex (W.ow (i := 0) rfl) fun _ h => h.1) (argsL := []) (rest := [(.ref ex)]) rfl rfl pd_31 rfl (own_w hw 254 rfl) (own_w hw 255 rfl) (own_w hw 256 rfl) (own_w hw 258 rfl) (own_w hw 257 rfl) (own_w hw 188 rfl) (own_w hw 259 rfl) (by decide) at_386 (q := 389) rfl rfl (Nat.le_of_ble_eq_true rfl) (Nat.le_of_ble_eq_true rfl) (Nat.le_of_ble_eq_true rfl) (Nat.le_of_ble_eq_true rfl) ?_
        rintro _ _ _ T ⟨rfl, rfl, rfl⟩ W
        refine g_virtual W (con_seq1 l Z a0 E0 _ _ ex ms bx bm [(111 : Int32), (112 : Int32), (101 : Int32), (114 : Int32), (97 : Int32), (116 : Int32), (105 : Int32), (111 : Int32), (110 : Int32), (32 : Int32), (91 : Int32), i0, i1, (93 : Int32), (32 : Int32), (105 : Int32), (115 : Int32), (32 : Int32), (110 : Int32), (111 : Int32), (116 : Int32), (32 : Int32), (114 : Int32), (117 : Int32), (110 : Int32), (110 : Int32), (105 : Int32), (110 : Int32), (103 : Int32), (58 : Int32), (32 : Int32), (105 : Int32), (116 : Int32), (32 : Int32), (105 : Int32), (115 : Int32), (32 : Int32), (91 : Int32), s0, s1, (93 : Int32)] (by simp) hx1 hx2 hm1 hm2) (own_ex (W.rd hx1) fun _ h => h.1) (argsL := [(.ref ms)]) (rest := []) rfl rfl pd_35 rfl (own_w hw 244 rfl) (own_w hw 245 rfl) (own_w hw 247 rfl) (own_w hw 246 rfl) (own_w hw 3 rfl) (own_w hw 248 rfl) (by decide) at_389 (q := 392) rfl rfl (Nat.le_of_ble_eq_true rfl) (Nat.le_of_ble_eq_true rfl) (Nat.le_of_ble_eq_true rfl) (Nat.le_of_ble_eq_true rfl) ?_
        rintro _ _ _ T ⟨rfl, rfl, rfl⟩ W
        refine g_ifN W at_392 (q := 395) (XT.i0_eq_f (by decide)) rfl ?_
        refine g_iconst W (v := (1 : Int32)) at_395 (q := 396) rfl rfl ?_
        refine g_goto W at_396 (q := 400) (by decide) (by decide) ?_
        exact g_retI W rfl (Or.inr (Or.inl rfl)) rfl at_400 (Nat.le_of_ble_eq_true rfl) (Nat.le_of_ble_eq_true rfl) rfl
  · obtain ⟨bs, ⟨ls, hs1, hs2⟩ | ⟨ls, hs1, hs2⟩⟩ := hst
    · obtain ⟨bx, ⟨lx, hx1, hx2⟩ | ⟨lx, hx1, hx2⟩⟩ := hex
      · exact absurd (own_lappR (own_lappL (own_lappL (own_lappL (show Lat ((((([] ++ [(111 : Int32), (112 : Int32), (101 : Int32), (114 : Int32), (97 : Int32), (116 : Int32), (105 : Int32), (111 : Int32), (110 : Int32), (32 : Int32), (91 : Int32)]) ++ [i0, i1]) ++ [(93 : Int32), (32 : Int32), (105 : Int32), (115 : Int32), (32 : Int32), (110 : Int32), (111 : Int32), (116 : Int32), (32 : Int32), (114 : Int32), (117 : Int32), (110 : Int32), (110 : Int32), (105 : Int32), (110 : Int32), (103 : Int32), (58 : Int32), (32 : Int32), (105 : Int32), (116 : Int32), (32 : Int32), (105 : Int32), (115 : Int32), (32 : Int32), (91 : Int32)]) ++ [s0, s1]) ++ [(93 : Int32)]) from lx))))) li
      · refine g_static W (con_onr10 l Z a0 E0 hkn hlt [] _ idr bi st bs [i0, i1] [s0, s1] rfl rfl hi1 hi2 hs1 hs2 (own_latR ls hqst)) (argsL := [(.ref idr), (.ref st)]) (rest := []) rfl rfl pd_34 rfl (own_w hw 31 rfl) (own_w hw 32 rfl) (own_w hw 33 rfl) (own_w hw 34 rfl) (by decide) at_333 (q := 336) rfl rfl (Nat.le_of_ble_eq_true rfl) (Nat.le_of_ble_eq_true rfl) (Nat.le_of_ble_eq_true rfl) (Nat.le_of_ble_eq_true rfl) ?_
        rintro _ _ _ T ⟨xe, t, ms, bt, bm, rfl, rfl, hsub, ht1, ht2, hm1, hm2⟩ W
        have hi1 := own_to hi1 W (hsub)
        have hi2 := own_to hi2 W (hsub)
        have hs1 := own_to hs1 W (hsub)
        have hs2 := own_to hs2 W (hsub)
        have hx1 := own_to hx1 W (hsub)
        have hx2 := own_to hx2 W (hsub)
        refine g_astore W at_336 (q := 338) (L' := #[.val (.int x0), .val (.int x1), .val (.int i0), .val (.int i1), .val (.int s0), .val (.int s1), .val (.ref idr), .val (.ref st), .val (.ref xa), .val (.ref ex), .val (.ref xe)]) rfl rfl rfl ?_
        refine g_aload W at_338 (q := 340) rfl rfl rfl ?_
        refine g_nonnullY W at_340 (q := 345) (by decide) (by decide) ?_
        refine g_aload W at_345 (q := 347) rfl rfl rfl ?_
        refine g_virtual W (con_gst l Z a0 E0 [] _ xe t ms idr _) (own_ex (W.ow (i := 0) rfl) fun _ h => h.1) (argsL := []) (rest := []) rfl rfl pd_20 rfl (own_w hw 233 rfl) (own_w hw 234 rfl) (own_w hw 236 rfl) (own_w hw 235 rfl) (own_w hw 33 rfl) (own_w hw 237 rfl) (by decide) at_347 (q := 350) rfl rfl (Nat.le_of_ble_eq_true rfl) (Nat.le_of_ble_eq_true rfl) (Nat.le_of_ble_eq_true rfl) (Nat.le_of_ble_eq_true rfl) ?_
        rintro _ _ _ T ⟨rfl, rfl, rfl⟩ W
        refine g_sipush W (v := (409 : Int32)) at_350 (q := 353) rfl rfl ?_
        refine g_icN W at_353 (q := 356) (XT.ii_ne_f (by decide)) rfl ?_
        refine g_ldcH W (vs := enc [(111 : Int32), (112 : Int32), (101 : Int32), (114 : Int32), (97 : Int32), (116 : Int32), (105 : Int32), (111 : Int32), (110 : Int32), (95 : Int32), (110 : Int32), (111 : Int32), (116 : Int32), (95 : Int32), (114 : Int32), (117 : Int32), (110 : Int32), (110 : Int32), (105 : Int32), (110 : Int32), (103 : Int32)]) (own_w hw 238 rfl) hS (by decide +kernel) lit_238 (by decide) enc_fits at_356 (q := 358) rfl (nn := 84) (by decide +kernel) (Nat.le_of_ble_eq_true rfl) (Nat.le_of_ble_eq_true rfl) (Nat.le_of_ble_eq_true rfl) fun tl btl T W => ?_
        have hi1 := own_to hi1 W (fun y hy => .tail _ (.tail _ hy))
        have hi2 := own_to hi2 W (fun y hy => .tail _ (.tail _ hy))
        have hs1 := own_to hs1 W (fun y hy => .tail _ (.tail _ hy))
        have hs2 := own_to hs2 W (fun y hy => .tail _ (.tail _ hy))
        have hx1 := own_to hx1 W (fun y hy => .tail _ (.tail _ hy))
        have hx2 := own_to hx2 W (fun y hy => .tail _ (.tail _ hy))
        have ht1 := own_to ht1 W (fun y hy => .tail _ (.tail _ hy))
        have ht2 := own_to ht2 W (fun y hy => .tail _ (.tail _ hy))
        have hm1 := own_to hm1 W (fun y hy => .tail _ (.tail _ hy))
        have hm2 := own_to hm2 W (fun y hy => .tail _ (.tail _ hy))
        have htl1 := own_mem (x := (tl, ObjC Z "java/lang/String" shStr [.ref btl, .int (0 : Int32)])) W (.head _)
        have htl2 := own_mem (x := (btl, ArrC Z .byte (enc [(111 : Int32), (112 : Int32), (101 : Int32), (114 : Int32), (97 : Int32), (116 : Int32), (105 : Int32), (111 : Int32), (110 : Int32), (95 : Int32), (110 : Int32), (111 : Int32), (116 : Int32), (95 : Int32), (114 : Int32), (117 : Int32), (110 : Int32), (110 : Int32), (105 : Int32), (110 : Int32), (103 : Int32)]))) W (.tail _ (.head _))
        refine g_aload W at_358 (q := 360) rfl rfl rfl ?_
        refine g_virtual W (con_gty l Z a0 E0 [] _ xe t ms idr _) (own_ex (W.ow (i := 0) rfl) fun _ h => h.1) (argsL := []) (rest := [(.ref tl)]) rfl rfl pd_31 rfl (own_w hw 239 rfl) (own_w hw 240 rfl) (own_w hw 242 rfl) (own_w hw 241 rfl) (own_w hw 33 rfl) (own_w hw 243 rfl) (by decide) at_360 (q := 363) rfl rfl (Nat.le_of_ble_eq_true rfl) (Nat.le_of_ble_eq_true rfl) (Nat.le_of_ble_eq_true rfl) (Nat.le_of_ble_eq_true rfl) ?_
        rintro _ _ _ T ⟨rfl, rfl, rfl⟩ W
        refine g_virtual W (con_seq0 l Z a0 E0 _ _ tl t btl bt [(111 : Int32), (112 : Int32), (101 : Int32), (114 : Int32), (97 : Int32), (116 : Int32), (105 : Int32), (111 : Int32), (110 : Int32), (95 : Int32), (110 : Int32), (111 : Int32), (116 : Int32), (95 : Int32), (114 : Int32), (117 : Int32), (110 : Int32), (110 : Int32), (105 : Int32), (110 : Int32), (103 : Int32)] (by decide) htl1 htl2 ht1 ht2) (own_ex (W.rd htl1) fun _ h => h.1) (argsL := [(.ref t)]) (rest := []) rfl rfl pd_35 rfl (own_w hw 244 rfl) (own_w hw 245 rfl) (own_w hw 247 rfl) (own_w hw 246 rfl) (own_w hw 3 rfl) (own_w hw 248 rfl) (by decide) at_363 (q := 366) rfl rfl (Nat.le_of_ble_eq_true rfl) (Nat.le_of_ble_eq_true rfl) (Nat.le_of_ble_eq_true rfl) (Nat.le_of_ble_eq_true rfl) ?_
        rintro _ _ _ T ⟨rfl, rfl, rfl⟩ W
        refine g_ifN W at_366 (q := 369) (XT.i0_eq_f (by decide)) rfl ?_
        refine g_aload W at_369 (q := 371) rfl rfl rfl ?_
        refine g_aload W at_371 (q := 373) rfl rfl rfl ?_
        refine g_virtual W (con_gop l Z a0 E0 [] _ xe t ms idr _) (own_ex (W.ow (i := 0) rfl) fun _ h => h.1) (argsL := []) (rest := [(.ref idr)]) rfl rfl pd_31 rfl (own_w hw 249 rfl) (own_w hw 250 rfl) (own_w hw 252 rfl) (own_w hw 251 rfl) (own_w hw 33 rfl) (own_w hw 253 rfl) (by decide) at_373 (q := 376) rfl rfl (Nat.le_of_ble_eq_true rfl) (Nat.le_of_ble_eq_true rfl) (Nat.le_of_ble_eq_true rfl) (Nat.le_of_ble_eq_true rfl) ?_
        rintro _ _ _ T ⟨rfl, rfl, rfl⟩ W
        refine g_virtual W (con_seq1 l Z a0 E0 _ _ idr idr bi bi [i0, i1] (by simp) hi1 hi2 hi1 hi2) (own_ex (W.rd hi1) fun _ h => h.1) (argsL := [(.ref idr)]) (rest := []) rfl rfl pd_35 rfl (own_w hw 244 rfl) (own_w hw 245 rfl) (own_w hw 247 rfl) (own_w hw 246 rfl) (own_w hw 3 rfl) (own_w hw 248 rfl) (by decide) at_376 (q := 379) rfl rfl (Nat.le_of_ble_eq_true rfl) (Nat.le_of_ble_eq_true rfl) (Nat.le_of_ble_eq_true rfl) (Nat.le_of_ble_eq_true rfl) ?_
        rintro _ _ _ T ⟨rfl, rfl, rfl⟩ W
        refine g_ifN W at_379 (q := 382) (XT.i0_eq_f (by decide)) rfl ?_
        refine g_aload W at_382 (q := 384) rfl rfl rfl ?_
        refine g_aload W at_384 (q := 386) rfl rfl rfl ?_
        refine g_virtualUp (x := ⟨"com/example/handover/handover/ApiError", "getMessage", "()Ljava/lang/String;"⟩) W (con_gms l Z a0 E0 [] _ xe t ms idr _) (owner := "java/lang/Throwable") (own_ex (W.ow (i := 0) rfl) fun _ h => h.1) (argsL := []) (rest := [(.ref ex)]) rfl rfl pd_31 rfl (own_w hw 254 rfl) (own_w hw 255 rfl) (own_w hw 256 rfl) (own_w hw 258 rfl) (own_w hw 257 rfl) (own_w hw 188 rfl) (own_w hw 259 rfl) (by decide) at_386 (q := 389) rfl rfl (Nat.le_of_ble_eq_true rfl) (Nat.le_of_ble_eq_true rfl) (Nat.le_of_ble_eq_true rfl) (Nat.le_of_ble_eq_true rfl) ?_
        rintro _ _ _ T ⟨rfl, rfl, rfl⟩ W
        refine g_virtual W (con_seq1 l Z a0 E0 _ _ ex ms bx bm [(111 : Int32), (112 : Int32), (101 : Int32), (114 : Int32), (97 : Int32), (116 : Int32), (105 : Int32), (111 : Int32), (110 : Int32), (32 : Int32), (91 : Int32), i0, i1, (93 : Int32), (32 : Int32), (105 : Int32), (115 : Int32), (32 : Int32), (110 : Int32), (111 : Int32), (116 : Int32), (32 : Int32), (114 : Int32), (117 : Int32), (110 : Int32), (110 : Int32), (105 : Int32), (110 : Int32), (103 : Int32), (58 : Int32), (32 : Int32), (105 : Int32), (116 : Int32), (32 : Int32), (105 : Int32), (115 : Int32), (32 : Int32), (91 : Int32), s0, s1, (93 : Int32)] (by simp) hx1 hx2 hm1 hm2) (own_ex (W.rd hx1) fun _ h => h.1) (argsL := [(.ref ms)]) (rest := []) rfl rfl pd_35 rfl (own_w hw 244 rfl) (own_w hw 245 rfl) (own_w hw 247 rfl) (own_w hw 246 rfl) (own_w hw 3 rfl) (own_w hw 248 rfl) (by decide) at_389 (q := 392) rfl rfl (Nat.le_of_ble_eq_true rfl) (Nat.le_of_ble_eq_true rfl) (Nat.le_of_ble_eq_true rfl) (Nat.le_of_ble_eq_true rfl) ?_
        rintro _ _ _ T ⟨rfl, rfl, rfl⟩ W
        refine g_ifN W at_392 (q := 395) (XT.i0_eq_f (by decide)) rfl ?_
        refine g_iconst W (v := (1 : Int32)) at_395 (q := 396) rfl rfl ?_
        refine g_goto W at_396 (q := 400) (by decide) (by decide) ?_
        exact g_retI W rfl (Or.inr (Or.inl rfl)) rfl at_400 (Nat.le_of_ble_eq_true rfl) (Nat.le_of_ble_eq_true rfl) rfl
    · obtain ⟨bx, ⟨lx, hx1, hx2⟩ | ⟨lx, hx1, hx2⟩⟩ := hex
      · exact absurd (own_lappR (own_lappL (own_lappL (own_lappL (show Lat ((((([] ++ [(111 : Int32), (112 : Int32), (101 : Int32), (114 : Int32), (97 : Int32), (116 : Int32), (105 : Int32), (111 : Int32), (110 : Int32), (32 : Int32), (91 : Int32)]) ++ [i0, i1]) ++ [(93 : Int32), (32 : Int32), (105 : Int32), (115 : Int32), (32 : Int32), (110 : Int32), (111 : Int32), (116 : Int32), (32 : Int32), (114 : Int32), (117 : Int32), (110 : Int32), (110 : Int32), (105 : Int32), (110 : Int32), (103 : Int32), (58 : Int32), (32 : Int32), (105 : Int32), (116 : Int32), (32 : Int32), (105 : Int32), (115 : Int32), (32 : Int32), (91 : Int32)]) ++ [s0, s1]) ++ [(93 : Int32)]) from lx))))) li
      · refine g_static W (con_onr11 l Z a0 E0 hkn hlt [] _ idr bi st bs [i0, i1] [s0, s1] rfl rfl hi1 hi2 hs1 hs2) (argsL := [(.ref idr), (.ref st)]) (rest := []) rfl rfl pd_34 rfl (own_w hw 31 rfl) (own_w hw 32 rfl) (own_w hw 33 rfl) (own_w hw 34 rfl) (by decide) at_333 (q := 336) rfl rfl (Nat.le_of_ble_eq_true rfl) (Nat.le_of_ble_eq_true rfl) (Nat.le_of_ble_eq_true rfl) (Nat.le_of_ble_eq_true rfl) ?_
        rintro _ _ _ T ⟨xe, t, ms, bt, bm, rfl, rfl, hsub, ht1, ht2, hm1, hm2⟩ W
        have hi1 := own_to hi1 W (hsub)
        have hi2 := own_to hi2 W (hsub)
        have hs1 := own_to hs1 W (hsub)
        have hs2 := own_to hs2 W (hsub)
        have hx1 := own_to hx1 W (hsub)
        have hx2 := own_to hx2 W (hsub)
        refine g_astore W at_336 (q := 338) (L' := #[.val (.int x0), .val (.int x1), .val (.int i0), .val (.int i1), .val (.int s0), .val (.int s1), .val (.ref idr), .val (.ref st), .val (.ref xa), .val (.ref ex), .val (.ref xe)]) rfl rfl rfl ?_
        refine g_aload W at_338 (q := 340) rfl rfl rfl ?_
        refine g_nonnullY W at_340 (q := 345) (by decide) (by decide) ?_
        refine g_aload W at_345 (q := 347) rfl rfl rfl ?_
        refine g_virtual W (con_gst l Z a0 E0 [] _ xe t ms idr _) (own_ex (W.ow (i := 0) rfl) fun _ h => h.1) (argsL := []) (rest := []) rfl rfl pd_20 rfl (own_w hw 233 rfl) (own_w hw 234 rfl) (own_w hw 236 rfl) (own_w hw 235 rfl) (own_w hw 33 rfl) (own_w hw 237 rfl) (by decide) at_347 (q := 350) rfl rfl (Nat.le_of_ble_eq_true rfl) (Nat.le_of_ble_eq_true rfl) (Nat.le_of_ble_eq_true rfl) (Nat.le_of_ble_eq_true rfl) ?_
        rintro _ _ _ T ⟨rfl, rfl, rfl⟩ W
        refine g_sipush W (v := (409 : Int32)) at_350 (q := 353) rfl rfl ?_
        refine g_icN W at_353 (q := 356) (XT.ii_ne_f (by decide)) rfl ?_
        refine g_ldcH W (vs := enc [(111 : Int32), (112 : Int32), (101 : Int32), (114 : Int32), (97 : Int32), (116 : Int32), (105 : Int32), (111 : Int32), (110 : Int32), (95 : Int32), (110 : Int32), (111 : Int32), (116 : Int32), (95 : Int32), (114 : Int32), (117 : Int32), (110 : Int32), (110 : Int32), (105 : Int32), (110 : Int32), (103 : Int32)]) (own_w hw 238 rfl) hS (by decide +kernel) lit_238 (by decide) enc_fits at_356 (q := 358) rfl (nn := 84) (by decide +kernel) (Nat.le_of_ble_eq_true rfl) (Nat.le_of_ble_eq_true rfl) (Nat.le_of_ble_eq_true rfl) fun tl btl T W => ?_
        have hi1 := own_to hi1 W (fun y hy => .tail _ (.tail _ hy))
        have hi2 := own_to hi2 W (fun y hy => .tail _ (.tail _ hy))
        have hs1 := own_to hs1 W (fun y hy => .tail _ (.tail _ hy))
        have hs2 := own_to hs2 W (fun y hy => .tail _ (.tail _ hy))
        have hx1 := own_to hx1 W (fun y hy => .tail _ (.tail _ hy))
        have hx2 := own_to hx2 W (fun y hy => .tail _ (.tail _ hy))
        have ht1 := own_to ht1 W (fun y hy => .tail _ (.tail _ hy))
        have ht2 := own_to ht2 W (fun y hy => .tail _ (.tail _ hy))
        have hm1 := own_to hm1 W (fun y hy => .tail _ (.tail _ hy))
        have hm2 := own_to hm2 W (fun y hy => .tail _ (.tail _ hy))
        have htl1 := own_mem (x := (tl, ObjC Z "java/lang/String" shStr [.ref btl, .int (0 : Int32)])) W (.head _)
        have htl2 := own_mem (x := (btl, ArrC Z .byte (enc [(111 : Int32), (112 : Int32), (101 : Int32), (114 : Int32), (97 : Int32), (116 : Int32), (105 : Int32), (111 : Int32), (110 : Int32), (95 : Int32), (110 : Int32), (111 : Int32), (116 : Int32), (95 : Int32), (114 : Int32), (117 : Int32), (110 : Int32), (110 : Int32), (105 : Int32), (110 : Int32), (103 : Int32)]))) W (.tail _ (.head _))
        refine g_aload W at_358 (q := 360) rfl rfl rfl ?_
        refine g_virtual W (con_gty l Z a0 E0 [] _ xe t ms idr _) (own_ex (W.ow (i := 0) rfl) fun _ h => h.1) (argsL := []) (rest := [(.ref tl)]) rfl rfl pd_31 rfl (own_w hw 239 rfl) (own_w hw 240 rfl) (own_w hw 242 rfl) (own_w hw 241 rfl) (own_w hw 33 rfl) (own_w hw 243 rfl) (by decide) at_360 (q := 363) rfl rfl (Nat.le_of_ble_eq_true rfl) (Nat.le_of_ble_eq_true rfl) (Nat.le_of_ble_eq_true rfl) (Nat.le_of_ble_eq_true rfl) ?_
        rintro _ _ _ T ⟨rfl, rfl, rfl⟩ W
        refine g_virtual W (con_seq0 l Z a0 E0 _ _ tl t btl bt [(111 : Int32), (112 : Int32), (101 : Int32), (114 : Int32), (97 : Int32), (116 : Int32), (105 : Int32), (111 : Int32), (110 : Int32), (95 : Int32), (110 : Int32), (111 : Int32), (116 : Int32), (95 : Int32), (114 : Int32), (117 : Int32), (110 : Int32), (110 : Int32), (105 : Int32), (110 : Int32), (103 : Int32)] (by decide) htl1 htl2 ht1 ht2) (own_ex (W.rd htl1) fun _ h => h.1) (argsL := [(.ref t)]) (rest := []) rfl rfl pd_35 rfl (own_w hw 244 rfl) (own_w hw 245 rfl) (own_w hw 247 rfl) (own_w hw 246 rfl) (own_w hw 3 rfl) (own_w hw 248 rfl) (by decide) at_363 (q := 366) rfl rfl (Nat.le_of_ble_eq_true rfl) (Nat.le_of_ble_eq_true rfl) (Nat.le_of_ble_eq_true rfl) (Nat.le_of_ble_eq_true rfl) ?_
        rintro _ _ _ T ⟨rfl, rfl, rfl⟩ W
        refine g_ifN W at_366 (q := 369) (XT.i0_eq_f (by decide)) rfl ?_
        refine g_aload W at_369 (q := 371) rfl rfl rfl ?_
        refine g_aload W at_371 (q := 373) rfl rfl rfl ?_
        refine g_virtual W (con_gop l Z a0 E0 [] _ xe t ms idr _) (own_ex (W.ow (i := 0) rfl) fun _ h => h.1) (argsL := []) (rest := [(.ref idr)]) rfl rfl pd_31 rfl (own_w hw 249 rfl) (own_w hw 250 rfl) (own_w hw 252 rfl) (own_w hw 251 rfl) (own_w hw 33 rfl) (own_w hw 253 rfl) (by decide) at_373 (q := 376) rfl rfl (Nat.le_of_ble_eq_true rfl) (Nat.le_of_ble_eq_true rfl) (Nat.le_of_ble_eq_true rfl) (Nat.le_of_ble_eq_true rfl) ?_
        rintro _ _ _ T ⟨rfl, rfl, rfl⟩ W
        refine g_virtual W (con_seq1 l Z a0 E0 _ _ idr idr bi bi [i0, i1] (by simp) hi1 hi2 hi1 hi2) (own_ex (W.rd hi1) fun _ h => h.1) (argsL := [(.ref idr)]) (rest := []) rfl rfl pd_35 rfl (own_w hw 244 rfl) (own_w hw 245 rfl) (own_w hw 247 rfl) (own_w hw 246 rfl) (own_w hw 3 rfl) (own_w hw 248 rfl) (by decide) at_376 (q := 379) rfl rfl (Nat.le_of_ble_eq_true rfl) (Nat.le_of_ble_eq_true rfl) (Nat.le_of_ble_eq_true rfl) (Nat.le_of_ble_eq_true rfl) ?_
        rintro _ _ _ T ⟨rfl, rfl, rfl⟩ W
        refine g_ifN W at_379 (q := 382) (XT.i0_eq_f (by decide)) rfl ?_
        refine g_aload W at_382 (q := 384) rfl rfl rfl ?_
        refine g_aload W at_384 (q := 386) rfl rfl rfl ?_
        refine g_virtualUp (x := ⟨"com/example/handover/handover/ApiError", "getMessage", "()Ljava/lang/String;"⟩) W (con_gms l Z a0 E0 [] _ xe t ms idr _) (owner := "java/lang/Throwable") (own_ex (W.ow (i := 0) rfl) fun _ h => h.1) (argsL := []) (rest := [(.ref ex)]) rfl rfl pd_31 rfl (own_w hw 254 rfl) (own_w hw 255 rfl) (own_w hw 256 rfl) (own_w hw 258 rfl) (own_w hw 257 rfl) (own_w hw 188 rfl) (own_w hw 259 rfl) (by decide) at_386 (q := 389) rfl rfl (Nat.le_of_ble_eq_true rfl) (Nat.le_of_ble_eq_true rfl) (Nat.le_of_ble_eq_true rfl) (Nat.le_of_ble_eq_true rfl) ?_
        rintro _ _ _ T ⟨rfl, rfl, rfl⟩ W
        refine g_virtual W (con_seq1 l Z a0 E0 _ _ ex ms bx bm [(111 : Int32), (112 : Int32), (101 : Int32), (114 : Int32), (97 : Int32), (116 : Int32), (105 : Int32), (111 : Int32), (110 : Int32), (32 : Int32), (91 : Int32), i0, i1, (93 : Int32), (32 : Int32), (105 : Int32), (115 : Int32), (32 : Int32), (110 : Int32), (111 : Int32), (116 : Int32), (32 : Int32), (114 : Int32), (117 : Int32), (110 : Int32), (110 : Int32), (105 : Int32), (110 : Int32), (103 : Int32), (58 : Int32), (32 : Int32), (105 : Int32), (116 : Int32), (32 : Int32), (105 : Int32), (115 : Int32), (32 : Int32), (91 : Int32), s0, s1, (93 : Int32)] (by simp) hx1 hx2 hm1 hm2) (own_ex (W.rd hx1) fun _ h => h.1) (argsL := [(.ref ms)]) (rest := []) rfl rfl pd_35 rfl (own_w hw 244 rfl) (own_w hw 245 rfl) (own_w hw 247 rfl) (own_w hw 246 rfl) (own_w hw 3 rfl) (own_w hw 248 rfl) (by decide) at_389 (q := 392) rfl rfl (Nat.le_of_ble_eq_true rfl) (Nat.le_of_ble_eq_true rfl) (Nat.le_of_ble_eq_true rfl) (Nat.le_of_ble_eq_true rfl) ?_
        rintro _ _ _ T ⟨rfl, rfl, rfl⟩ W
        refine g_ifN W at_392 (q := 395) (XT.i0_eq_f (by decide)) rfl ?_
        refine g_iconst W (v := (1 : Int32)) at_395 (q := 396) rfl rfl ?_
        refine g_goto W at_396 (q := 400) (by decide) (by decide) ?_
        exact g_retI W rfl (Or.inr (Or.inl rfl)) rfl at_400 (Nat.le_of_ble_eq_true rfl) (Nat.le_of_ble_eq_true rfl) rfl
theorem own_EW {Z : State} {a0 : Array Value} (hw : ∀ d ∈ tables_1, d.before a0 Z = true) : EW Z a0 EL0 := (EW.cons (own_w hw 37 rfl) (by decide +kernel) (EW.cons (own_w hw 58 rfl) (by decide +kernel) (EW.cons (own_w hw 106 rfl) (by decide +kernel) (EW.cons (own_w hw 130 rfl) (by decide +kernel) (EW.cons (own_w hw 238 rfl) (by decide +kernel) EW.nil)))))
set_option maxRecDepth 65536 in
set_option maxHeartbeats 40000000 in
theorem comes_1 {Post : Tables → Env → Array Value → State → Outcome → State → Prop} (hpost : ∀ tb e args s v u, (limb_1_1.after args s (.returned v) u = true ∧ limb_1_2.after args s (.returned v) u = true ∧ True) → ReturnedEndW s (.returned v) u (Jvm.fieldLocs frame_1_writes args s ++ Jvm.arrayLocs frame_1_arrays args s ++ Jvm.staticLocs frame_1_statics s) 64 11904 → Post tb e args s (.returned v) u) :
    ArmFor flags0 classFile x code maxLocals ret World_1 tables_1 room_1 Calls_1 rest_1 Pre_1 Post := by
  intro l hfl _ _ p e ha hc hk s m args below hf hA hF happ hP
  obtain ⟨hcalls, hrest, hpre⟩ := hP
  obtain ⟨-, -, -, hnamed, -, -, -, hat⟩ := (Spec.applies_iff hf).mp happ
  obtain ⟨hg, hn⟩ := and_e (Cond.before_iff.mp (show (Jvm.Cond.and given_1 narrow_1).before args s = true from hpre))
  obtain ⟨g0, gr0⟩ := and_e hg
  obtain ⟨g1, gr1⟩ := and_e gr0
  obtain ⟨w0, w1, rfl⟩ : ∃ w0 w1 : Value, args = #[w0, w1] := by
    have hs : args.size = 2 := by simpa [Cond.value, given_1] using g0
    obtain ⟨L⟩ := args
    match L, hs with
    | [w0, w1], _ => exact ⟨w0, w1, rfl⟩
  have hw := fun d (hd : d ∈ tables_1) => atoms_spec (ws := Jvm.Cond.code x code maxLocals ret :: tables_1) hat d (List.mem_cons_of_mem _ hd)
  obtain ⟨hs0, hown0⟩ := atoms_of _ (rest_1_c_eq ▸ (show rest_1_c.before _ s = true from hrest))
  have hfit : Fit s := fun {y c} hc i hi => by
    obtain ⟨ha, rfl⟩ := Array.getElem?_eq_some_iff.mp hc
    have q := List.all_eq_true.mp ((Array.all_eq_true_iff_forall_mem.mp hF) _ (Array.getElem_mem ha)) i (List.mem_range.mpr hi)
    simpa [Array.getElem?_eq_getElem hi] using q
  obtain ⟨x0, ex0⟩ := is_v g1
  obtain rfl : w0 = (.int x0) := Option.some.inj ex0
  obtain ⟨x1, ex1⟩ := is_v gr1
  obtain rfl : w1 = (.int x1) := Option.some.inj ex1
  obtain ⟨fv, efv, hfv⟩ := isR_v (Cond.before_iff.mp (own_s hs0 8 rfl))
  have hFv := Sta.start efv (Or.inl (own_s hs0 7 rfl))
  have hAD := Sta.start (eqv_i (Term.int_eval (1)) (Cond.before_iff.mp (own_s hs0 32 rfl))) (Or.inl (own_s hs0 31 rfl))
  have hHI := Sta.start (eqv_i (Term.int_eval (0)) (Cond.before_iff.mp (own_s hs0 35 rfl))) (Or.inl (own_s hs0 34 rfl))
  have hLO := Sta.start (eqv_i (Term.int_eval (8)) (Cond.before_iff.mp (own_s hs0 38 rfl))) (Or.inl (own_s hs0 37 rfl))
  obtain ⟨vhUr, ehUr, rhUr⟩ := isR_v (Cond.before_iff.mp (own_s hs0 16 rfl))
  have whUr := Cond.before_iff.mp (own_s hs0 17 rfl)
  have hUr : ∃ r, Sta s s.heap "java/lang/Throwable" "UNASSIGNED_STACK" _ (.ref r) := by { rcases ref_cases rhUr with rfl | ⟨r, rfl⟩; { first | (simp [Cond.value, ehUr] at whUr; done) | (exfalso; simp only [Cond.value, ehUr] at whUr; revert whUr; cases s.vm.findClass "java/util/Collections$EmptyList" <;> simp) }; exact ⟨r, Sta.start ehUr (Or.inl (own_s hs0 15 rfl))⟩ }
  obtain ⟨vhSr, ehSr, rhSr⟩ := isR_v (Cond.before_iff.mp (own_s hs0 21 rfl))
  have whSr := Cond.before_iff.mp (own_s hs0 22 rfl)
  have hSr : ∃ r, Sta s s.heap "java/lang/Throwable" "SUPPRESSED_SENTINEL" _ (.ref r) := by { rcases ref_cases rhSr with rfl | ⟨r, rfl⟩; { first | (simp [Cond.value, ehSr] at whSr; done) | (exfalso; simp only [Cond.value, ehSr] at whSr; revert whSr; cases s.vm.findClass "java/util/Collections$EmptyList" <;> simp) }; exact ⟨r, Sta.start ehSr (Or.inl (own_s hs0 20 rfl))⟩ }
  have hStr : ∀ a ∈ Bundle.stringAtoms, a.before _ s = true := fun a q => hw a ((by decide +kernel : ∀ a ∈ Bundle.stringAtoms, a ∈ tables_1) a q)
  obtain ⟨ccs, ecs⟩ := is_v (Cond.before_iff.mp (hs0 _ (List.mem_of_getElem? (i := 1) rfl)))
  have hcC : Sta s s.heap "java/lang/String" "COMPACT_STRINGS" "Z" (.int ccs) := Sta.start ecs (Or.inl (hs0 _ (List.mem_of_getElem? (i := 0) rfl)))
  have hcc : ¬ (ccs = (0 : Int32)) := gotF (Cond.eq_ints ecs (Term.int_eval (0))) (not_v (Cond.before_iff.mp (hs0 _ (List.mem_of_getElem? (i := 2) rfl))))
  have hEW : EW s _ EL0 := own_EW hw
  have hCH : CHv s EL0 s.vm s.heap := CHv.start hEW (fun p hp => hcalls.2.2.1 p ((by decide +kernel : ∀ q ∈ EL0, q ∈ consts_1) p hp)) (hs0 _ (List.mem_of_getElem? (i := 2) rfl)) (own_w hw 20 rfl) (own_w hw 2 rfl)
  have E0 : Env0 s _ := ⟨hw, hs0, hEW, hStr, ⟨ccs, hcC, hcc⟩, ⟨fv, hFv, hfv⟩, hAD, hHI, hLO, ⟨hUr, hSr⟩⟩
  obtain ⟨n, o, h1, h2, h3, v, L, rfl, -, hq, N, -, O', P', -, rfl⟩ := con_law (kn := True) l s _ E0 [] trivial (by rw [Launch.stackTraces, hfl]; decide) x0 x1 p e ha hc hk s m _ below hf ((Spec.applies_iff_loose hf).mp happ).1 ⟨rfl, State.Warmed39.refl s, hCH, ⟨Nat.le_refl _, fun _ _ q => q⟩, Lay.nil (fun y hy => by cases hy)⟩ (fun _ => ⟨MethodsKnown_of_tablesKnown hcalls.2.1, FramesKnown_of_framesKnown hcalls.1 hf⟩)
  exact ⟨n, _, h1, h2, h3, hpost _ _ _ _ _ _ ⟨Cond.after_iff.mpr rfl, Cond.after_iff.mpr (eq_i res_at (Term.int_eval (1)) rfl), trivial⟩ ⟨hq.1, hq.2.1, hq.2.2.1, (hq.2.2.2.sift fun y hy => Or.inr (N y hy)).mono (by decide) (by decide)⟩⟩
theorem main_1_1 : Claimed_1_1 := comes_1 fun _ _ _ _ _ _ h hF => ⟨h.1, hF⟩
theorem main_1_2 : Claimed_1_2 := comes_1 fun _ _ _ _ _ _ h hF => ⟨h.2.1, hF⟩
end Jvm.Pilot.@@N@@
namespace Jvm.Pilot.@@N@@
open Jvm Jvm.ClassFile Sem Op Lib Jvm.Free Jvm.Stand Jvm.Pilot.@@N@@.Jvm.D
/-! MADE BY PROGRAM (witnessworld.py) out of the Statement's table words and the real class files: 42 classes; the members and pool entries that the words name. The judged class is class 1, her method 1. -/
namespace start1
open Jvm.ClassFile
def u (s : String) : CpInfo := .utf8 (stringToUtf16 s)
/-- a pool by its gaps: so many unusable entries, then the entry; so many at the end -/
def gap : Nat → List CpInfo → List CpInfo
  | 0, r => r
  | n + 1, r => .unusable :: gap n r
def poolList (es : List (Nat × CpInfo)) (last : Nat) : List CpInfo := es.foldr (fun e r => gap e.1 (e.2 :: r)) (gap last [])
def pool (es : List (Nat × CpInfo)) (last : Nat) : Array CpInfo := ⟨poolList es last⟩
def fileOf (pool : Array CpInfo) (this : Nat) (attrs : Array Attribute := #[]) (ms : Array MethodInfo := #[]) (fl : Nat := 33) (sup : Nat := 0) (ifs : Array Nat := #[]) (fds : Array FieldInfo := #[]) : ClassFile where
  minorVersion := 0
  majorVersion := 65
  constantPool := pool
  accessFlags := fl
  thisClass := this
  superClass := sup
  interfaces := ifs
  fields := fds
  methods := ms
  attributes := attrs
def plain (name : String) (sup : Option ClassId) : Class where
  name := name
  kind := .ordinary
  loader := none
  accessFlags := 33
  super := sup
  interfaces := #[]
  cf := none
  fields := #[]
  methods := #[]
  instanceTypes := #[]
  staticTypes := #[]
  resolved := #[]
  callSites := []
  init := .initialized
  statics := none
  mirror := none

def pool0 : Array CpInfo := pool [(5, u "<init>"), (0, u "()V"), (1, .class_ 10), (1, u "java/lang/Object")] 113

def k0c0 : Code := { maxStack := 0, maxLocals := 1, code := object_method_1_code, exceptionTable := #[], attributes := #[] }
def k0m0 : Method := { name := "<init>", desc := "()V", sig := { parameters := [], returnType := none }, accessFlags := 1, code := some k0c0 }
/-- java/lang/Object -/
def k0 : Class := { plain "java/lang/Object" none with
  accessFlags := 33
  interfaces := #[]
  cf := some (fileOf pool0 8 #[] #[{ accessFlags := 1, nameIndex := 5, descriptorIndex := 6, attributes := #[] }] 33 0 #[] #[])
  fields := #[]
  methods := #[k0m0]
  instanceTypes := #[]
  staticTypes := #[]
  resolved := Array.replicate 124 none
  statics := none }

def pool1 : Array CpInfo := pool [(2, .class_ 4), (1, u "java/lang/Object"), (0, u "<init>"), (0, u "()V"), (0, .integer 65535), (0, .class_ 9), (0, u "java/lang/String"), (0, .methodref 8 11), (0, .nameAndType 5 12), (0, u "([C)V"), (0, .methodref 14 15), (0, .class_ 16), (0, .nameAndType 17 18), (0, u "com/example/handover/handover/ApiError"), (0, u "operationNotRunning"), (0, u "(Ljava/lang/String;Ljava/lang/String;)Lcom/example/handover/handover/ApiError;"), (0, .methodref 14 20), (0, .nameAndType 21 22), (0, u "status"), (0, u "()I"), (0, .string 24), (0, u "operation_not_running"), (0, .methodref 14 26), (0, .nameAndType 27 28), (0, u "type"), (0, u "()Ljava/lang/String;"), (0, .methodref 8 30), (0, .nameAndType 31 32), (0, u "equals"), (0, u "(Ljava/lang/Object;)Z"), (0, .methodref 14 34), (0, .nameAndType 35 28), (0, u "operationId"), (0, .methodref 14 37), (0, .nameAndType 38 28), (0, u "getMessage"), (0, .class_ 40), (0, u "com/example/handover/handover/ApiErrorOperationNotRunningPinLaw"), (2, u "law"), (0, u "(II)Z")] 5

def k1m0 : Method := { name := "<init>", desc := "()V", sig := { parameters := [], returnType := none }, accessFlags := 1, code := none }
def k1c1 : Code := { maxStack := 6, maxLocals := 11, code := code, exceptionTable := #[], attributes := #[] }
def k1m1 : Method := { name := "law", desc := "(II)Z", sig := { parameters := [.int, .int], returnType := some .boolean }, accessFlags := 9, code := some k1c1 }
/-- com/example/handover/handover/ApiErrorOperationNotRunningPinLaw -/
def k1 : Class := { plain "com/example/handover/handover/ApiErrorOperationNotRunningPinLaw" (some 0) with
  accessFlags := 49
  interfaces := #[]
  cf := some (fileOf pool1 39 #[] #[{ accessFlags := 1, nameIndex := 5, descriptorIndex := 6, attributes := #[] }, { accessFlags := 9, nameIndex := 43, descriptorIndex := 44, attributes := #[] }] 49 2 #[] #[])
  fields := #[]
  methods := #[k1m0, k1m1]
  instanceTypes := #[]
  staticTypes := #[]
  resolved := Array.replicate 50 none
  statics := none }

def pool2 : Array CpInfo := pool [(1, .class_ 2), (0, u "java/io/Serializable"), (0, .class_ 4), (0, u "java/lang/Object")] 2

/-- java/io/Serializable -/
def k2 : Class := { plain "java/io/Serializable" (some 0) with
  accessFlags := 1537
  interfaces := #[]
  cf := some (fileOf pool2 1 #[] #[] 1537 3 #[] #[])
  fields := #[]
  methods := #[]
  instanceTypes := #[]
  staticTypes := #[]
  resolved := Array.replicate 7 none
  statics := none }

def pool3 : Array CpInfo := pool [(1, .class_ 2), (0, u "java/lang/Comparable"), (0, .class_ 4), (0, u "java/lang/Object")] 7

/-- java/lang/Comparable -/
def k3 : Class := { plain "java/lang/Comparable" (some 0) with
  accessFlags := 1537
  interfaces := #[]
  cf := some (fileOf pool3 1 #[] #[] 1537 3 #[] #[])
  fields := #[]
  methods := #[]
  instanceTypes := #[]
  staticTypes := #[]
  resolved := Array.replicate 12 none
  statics := none }

def pool4 : Array CpInfo := pool [(2, .class_ 4), (1, u "java/lang/CharSequence"), (42, .class_ 48), (0, u "java/lang/CharSequence$1CodePointIterator"), (10, .class_ 60), (0, u "java/lang/CharSequence$1CharIterator"), (5, .class_ 67), (0, u "java/lang/Object")] 63

/-- java/lang/CharSequence -/
def k4 : Class := { plain "java/lang/CharSequence" (some 0) with
  accessFlags := 1537
  interfaces := #[]
  cf := some (fileOf pool4 2 #[.nestMembers #[47, 59]] #[] 1537 66 #[] #[])
  fields := #[]
  methods := #[]
  instanceTypes := #[]
  staticTypes := #[]
  resolved := Array.replicate 131 none
  statics := none }

def pool5 : Array CpInfo := pool [(1, .class_ 2), (0, u "java/lang/constant/Constable"), (0, .class_ 4), (0, u "java/lang/Object")] 6

/-- java/lang/constant/Constable -/
def k5 : Class := { plain "java/lang/constant/Constable" (some 0) with
  accessFlags := 1537
  interfaces := #[]
  cf := some (fileOf pool5 1 #[] #[] 1537 3 #[] #[])
  fields := #[]
  methods := #[]
  instanceTypes := #[]
  staticTypes := #[]
  resolved := Array.replicate 11 none
  statics := none }

def pool6 : Array CpInfo := pool [(1, .class_ 2), (0, u "java/lang/constant/ConstantDesc"), (0, .class_ 4), (0, u "java/lang/Object")] 32

/-- java/lang/constant/ConstantDesc -/
def k6 : Class := { plain "java/lang/constant/ConstantDesc" (some 0) with
  accessFlags := 1537
  interfaces := #[]
  cf := some (fileOf pool6 1 #[] #[] 1537 3 #[] #[])
  fields := #[]
  methods := #[]
  instanceTypes := #[]
  staticTypes := #[]
  resolved := Array.replicate 37 none
  statics := none }

def pool7 : Array CpInfo := pool [(1, .methodref 2 3), (0, .class_ 4), (0, .nameAndType 5 6), (0, u "java/lang/Object"), (0, u "<init>"), (0, u "()V"), (2, .fieldref 10 11), (0, .class_ 12), (0, .nameAndType 13 14), (0, u "java/lang/String"), (0, u "value"), (0, u "[B"), (0, .fieldref 10 16), (0, .nameAndType 17 18), (0, u "coder"), (0, u "B"), (2, u "hash"), (0, u "I"), (2, u "hashIsZero"), (0, u "Z"), (0, .methodref 10 28), (0, .nameAndType 5 29), (0, u "([CIILjava/lang/Void;)V"), (6, u "checkBoundsOffCount"), (0, u "(III)I"), (0, .fieldref 10 39), (0, .nameAndType 40 26), (0, u "COMPACT_STRINGS"), (1, .class_ 44), (1, u "java/lang/StringUTF16"), (0, u "compress"), (1, .methodref 42 48), (0, .nameAndType 49 50), (0, u "coderFromArrayLen"), (0, u "([BI)B"), (3, .methodref 55 56), (0, .class_ 57), (0, .nameAndType 58 59), (0, u "java/util/Arrays"), (0, u "copyOfRange"), (0, u "([BII)[B"), (46, .methodref 107 108), (0, .class_ 109), (0, .nameAndType 110 111), (0, u "java/lang/StringLatin1"), (0, u "inflate"), (0, u "([BI[BII)V"), (30, u "()Z"), (34, .methodref 42 178), (0, .nameAndType 45 179), (0, u "([CII)[B"), (13, .class_ 195), (1, u "java/lang/System"), (16, .methodref 193 213), (0, .nameAndType 214 215), (0, u "arraycopy"), (0, u "(Ljava/lang/Object;ILjava/lang/Object;II)V"), (118, u "()I"), (0, .methodref 10 336), (0, .nameAndType 17 337), (0, u "()B"), (2, u "()[B"), (148, .methodref 10 490), (0, .nameAndType 5 491), (0, u "(Ljava/lang/AbstractStringBuilder;Ljava/lang/Void;)V"), (1, .nameAndType 494 142), (0, u "isLatin1"), (11, .nameAndType 507 334), (0, u "length"), (24, u "getBytes"), (8, .methodref 107 542), (0, .nameAndType 543 544), (0, u "equals"), (0, u "([B[B)Z"), (4, .methodref 550 506), (0, .class_ 551), (0, u "java/lang/AbstractStringBuilder"), (0, .methodref 550 553), (0, .nameAndType 554 340), (0, u "getValue"), (18, u "(Ljava/lang/Object;)Z"), (1, .class_ 576), (0, u "java/lang/CharSequence"), (22, u "CASE_INSENSITIVE_ORDER"), (0, u "Ljava/util/Comparator;"), (220, u "([BIB)V"), (188, u "([C)V"), (36, .methodref 550 493), (0, .fieldref 550 1049), (0, .nameAndType 1050 26), (0, u "maybeLatin1"), (2, .fieldref 1054 1055), (0, .class_ 1056), (0, .nameAndType 1057 1058), (0, u "jdk/internal/util/Preconditions"), (0, u "SIOOBE_FORMATTER"), (0, u "Ljava/util/function/BiFunction;"), (5, u "(IIILjava/util/function/BiFunction;)I"), (0, .methodref 1054 1066), (0, .nameAndType 1067 1064), (0, u "checkFromIndexSize"), (33, u "serialPersistentFields"), (0, u "[Ljava/io/ObjectStreamField;"), (0, .class_ 1104), (0, u "java/lang/String$CaseInsensitiveComparator"), (1, .class_ 1107), (0, u "java/io/Serializable"), (0, .class_ 1109), (0, u "java/lang/Comparable"), (0, .class_ 1111), (0, u "java/lang/constant/Constable"), (0, .class_ 1113), (0, u "java/lang/constant/ConstantDesc"), (2, u "serialVersionUID"), (0, u "J"), (3, u "REPL"), (0, u "C"), (2, u "LATIN1"), (1, u "UTF16"), (105, u "(Ljava/lang/StringBuilder;)V")] 217

def k7m0 : Method := { name := "<init>", desc := "()V", sig := { parameters := [], returnType := none }, accessFlags := 1, code := none }
def k7c1 : Code := { maxStack := 5, maxLocals := 2, code := jdk_42_method_3_code, exceptionTable := #[], attributes := #[] }
def k7m1 : Method := { name := "<init>", desc := "([C)V", sig := { parameters := [(.array .char)], returnType := none }, accessFlags := 1, code := some k7c1 }
def k7c2 : Code := { maxStack := 3, maxLocals := 2, code := jdk_42_method_53_code, exceptionTable := #[], attributes := #[] }
def k7m2 : Method := { name := "<init>", desc := "(Ljava/lang/StringBuilder;)V", sig := { parameters := [(.object "java/lang/StringBuilder")], returnType := none }, accessFlags := 1, code := some k7c2 }
def k7c3 : Code := { maxStack := 2, maxLocals := 1, code := jdk_42_method_54_code, exceptionTable := #[], attributes := #[] }
def k7m3 : Method := { name := "length", desc := "()I", sig := { parameters := [], returnType := some .int }, accessFlags := 1, code := some k7c3 }
def k7c4 : Code := { maxStack := 2, maxLocals := 3, code := jdk_42_method_66_code, exceptionTable := #[], attributes := #[] }
def k7m4 : Method := { name := "equals", desc := "(Ljava/lang/Object;)Z", sig := { parameters := [(.object "java/lang/Object")], returnType := some .boolean }, accessFlags := 1, code := some k7c4 }
def k7c5 : Code := { maxStack := 5, maxLocals := 4, code := jdk_42_method_147_code, exceptionTable := #[], attributes := #[] }
def k7m5 : Method := { name := "getBytes", desc := "([BIB)V", sig := { parameters := [(.array .byte), .int, .byte], returnType := none }, accessFlags := 0, code := some k7c5 }
def k7c6 : Code := { maxStack := 4, maxLocals := 6, code := jdk_42_method_149_code, exceptionTable := #[], attributes := #[] }
def k7m6 : Method := { name := "<init>", desc := "([CIILjava/lang/Void;)V", sig := { parameters := [(.array .char), .int, .int, (.object "java/lang/Void")], returnType := none }, accessFlags := 2, code := some k7c6 }
def k7c7 : Code := { maxStack := 5, maxLocals := 5, code := jdk_42_method_150_code, exceptionTable := #[], attributes := #[] }
def k7m7 : Method := { name := "<init>", desc := "(Ljava/lang/AbstractStringBuilder;Ljava/lang/Void;)V", sig := { parameters := [(.object "java/lang/AbstractStringBuilder"), (.object "java/lang/Void")], returnType := none }, accessFlags := 0, code := some k7c7 }
def k7c8 : Code := { maxStack := 1, maxLocals := 1, code := jdk_42_method_152_code, exceptionTable := #[], attributes := #[] }
def k7m8 : Method := { name := "coder", desc := "()B", sig := { parameters := [], returnType := some .byte }, accessFlags := 0, code := some k7c8 }
def k7c9 : Code := { maxStack := 4, maxLocals := 3, code := jdk_42_method_157_code, exceptionTable := #[], attributes := #[] }
def k7m9 : Method := { name := "checkBoundsOffCount", desc := "(III)I", sig := { parameters := [.int, .int, .int], returnType := some .int }, accessFlags := 8, code := some k7c9 }
/-- java/lang/String -/
def k7 : Class := { plain "java/lang/String" (some 0) with
  accessFlags := 49
  interfaces := #[2, 3, 4, 5, 6]
  cf := some (fileOf pool7 10 #[.nestMembers #[1103]] #[{ accessFlags := 1, nameIndex := 5, descriptorIndex := 6, attributes := #[] }, { accessFlags := 1, nameIndex := 5, descriptorIndex := 1010, attributes := #[] }, { accessFlags := 1, nameIndex := 5, descriptorIndex := 1233, attributes := #[] }, { accessFlags := 1, nameIndex := 507, descriptorIndex := 334, attributes := #[] }, { accessFlags := 1, nameIndex := 543, descriptorIndex := 573, attributes := #[] }, { accessFlags := 0, nameIndex := 532, descriptorIndex := 821, attributes := #[] }, { accessFlags := 2, nameIndex := 5, descriptorIndex := 29, attributes := #[] }, { accessFlags := 0, nameIndex := 5, descriptorIndex := 491, attributes := #[] }, { accessFlags := 0, nameIndex := 17, descriptorIndex := 337, attributes := #[] }, { accessFlags := 8, nameIndex := 36, descriptorIndex := 37, attributes := #[] }] 49 2 #[1106, 1108, 575, 1110, 1112] #[{ accessFlags := 18, nameIndex := 13, descriptorIndex := 14, attributes := #[] }, { accessFlags := 18, nameIndex := 17, descriptorIndex := 18, attributes := #[] }, { accessFlags := 2, nameIndex := 21, descriptorIndex := 22, attributes := #[] }, { accessFlags := 2, nameIndex := 25, descriptorIndex := 26, attributes := #[] }, { accessFlags := 26, nameIndex := 1116, descriptorIndex := 1117, attributes := #[] }, { accessFlags := 24, nameIndex := 40, descriptorIndex := 26, attributes := #[] }, { accessFlags := 26, nameIndex := 1101, descriptorIndex := 1102, attributes := #[] }, { accessFlags := 26, nameIndex := 1121, descriptorIndex := 1122, attributes := #[] }, { accessFlags := 25, nameIndex := 599, descriptorIndex := 600, attributes := #[] }, { accessFlags := 24, nameIndex := 1125, descriptorIndex := 18, attributes := #[] }, { accessFlags := 24, nameIndex := 1127, descriptorIndex := 18, attributes := #[] }])
  fields := #[{ name := "value", type := (.array .byte), accessFlags := 18, slot := 0, constantValue := 0 }, { name := "coder", type := .byte, accessFlags := 18, slot := 1, constantValue := 0 }, { name := "hash", type := .int, accessFlags := 2, slot := 2, constantValue := 0 }, { name := "hashIsZero", type := .boolean, accessFlags := 2, slot := 3, constantValue := 0 }, { name := "serialVersionUID", type := .long, accessFlags := 26, slot := 0, constantValue := 0 }, { name := "COMPACT_STRINGS", type := .boolean, accessFlags := 24, slot := 1, constantValue := 0 }, { name := "serialPersistentFields", type := (.array (.object "java/io/ObjectStreamField")), accessFlags := 26, slot := 2, constantValue := 0 }, { name := "REPL", type := .char, accessFlags := 26, slot := 3, constantValue := 0 }, { name := "CASE_INSENSITIVE_ORDER", type := (.object "java/util/Comparator"), accessFlags := 25, slot := 4, constantValue := 0 }, { name := "LATIN1", type := .byte, accessFlags := 24, slot := 5, constantValue := 0 }, { name := "UTF16", type := .byte, accessFlags := 24, slot := 6, constantValue := 0 }]
  methods := #[k7m0, k7m1, k7m2, k7m3, k7m4, k7m5, k7m6, k7m7, k7m8, k7m9]
  instanceTypes := #[(.array .byte), .byte, .int, .boolean]
  staticTypes := #[.long, .boolean, (.array (.object "java/io/ObjectStreamField")), .char, (.object "java/util/Comparator"), .byte, .byte]
  resolved := Array.replicate 1451 none
  statics := some 0 }

def pool8 : Array CpInfo := pool [(3, .class_ 4), (0, u "java/lang/String"), (1, .class_ 8), (1, u "java/lang/Object"), (0, u "<init>"), (0, u "()V"), (0, .methodref 12 13), (0, .class_ 14), (0, .nameAndType 15 16), (0, u "java/lang/StringUTF16"), (0, u "newBytesLength"), (0, u "(I)I"), (3, .integer 1073741823), (23, .fieldref 12 45), (0, .nameAndType 46 47), (0, u "$assertionsDisabled"), (0, u "Z"), (0, .methodref 12 49), (0, .nameAndType 50 51), (0, u "length"), (0, u "([B)I"), (7, .fieldref 12 60), (0, .nameAndType 61 62), (0, u "HI_BYTE_SHIFT"), (0, u "I"), (0, .fieldref 12 64), (0, .nameAndType 65 62), (0, u "LO_BYTE_SHIFT"), (5, .methodref 12 72), (0, .nameAndType 73 74), (0, u "getChar"), (0, u "([BI)C"), (24, u "(II[B)V"), (7, .methodref 12 108), (0, .nameAndType 109 110), (0, u "newBytesFor"), (0, u "(I)[B"), (0, .methodref 12 112), (0, .nameAndType 113 114), (0, u "putChar"), (0, u "([BII)V"), (0, .methodref 12 116), (0, .nameAndType 117 118), (0, u "compress"), (0, u "([CI[BII)I"), (0, .methodref 12 120), (0, .nameAndType 121 122), (0, u "toBytes"), (0, u "([CII)[B"), (17, u "inflate"), (0, u "([BI[BII)V"), (31, .methodref 12 174), (0, .nameAndType 175 99), (0, u "checkBoundsOffCount"), (85, u "coderFromArrayLen"), (0, u "([BI)B"), (18, u "(III)I"), (87, .class_ 371), (1, u "java/lang/StringUTF16$LinesSpliterator"), (47, .methodref 3 420), (0, .nameAndType 175 281), (9, u "MAX_LENGTH"), (196, .class_ 628), (0, u "java/lang/StringUTF16$CodePointsSpliterator"), (0, .class_ 630), (0, u "java/lang/StringUTF16$CharsSpliterator")] 4

def k8m0 : Method := { name := "<init>", desc := "()V", sig := { parameters := [], returnType := none }, accessFlags := 0, code := none }
def k8c1 : Code := { maxStack := 1, maxLocals := 1, code := jdk_52_method_2_code, exceptionTable := #[], attributes := #[] }
def k8m1 : Method := { name := "newBytesFor", desc := "(I)[B", sig := { parameters := [.int], returnType := some (.array .byte) }, accessFlags := 9, code := some k8c1 }
def k8c2 : Code := { maxStack := 4, maxLocals := 1, code := jdk_52_method_3_code, exceptionTable := #[], attributes := #[] }
def k8m2 : Method := { name := "newBytesLength", desc := "(I)I", sig := { parameters := [.int], returnType := some .int }, accessFlags := 9, code := some k8c2 }
def k8c3 : Code := { maxStack := 4, maxLocals := 3, code := jdk_52_method_4_code, exceptionTable := #[], attributes := #[] }
def k8m3 : Method := { name := "putChar", desc := "([BII)V", sig := { parameters := [(.array .byte), .int, .int], returnType := none }, accessFlags := 8, code := some k8c3 }
def k8c4 : Code := { maxStack := 3, maxLocals := 2, code := jdk_52_method_5_code, exceptionTable := #[], attributes := #[] }
def k8m4 : Method := { name := "getChar", desc := "([BI)C", sig := { parameters := [(.array .byte), .int], returnType := some .char }, accessFlags := 8, code := some k8c4 }
def k8c5 : Code := { maxStack := 2, maxLocals := 1, code := jdk_52_method_6_code, exceptionTable := #[], attributes := #[] }
def k8m5 : Method := { name := "length", desc := "([B)I", sig := { parameters := [(.array .byte)], returnType := some .int }, accessFlags := 9, code := some k8c5 }
def k8c6 : Code := { maxStack := 4, maxLocals := 5, code := jdk_52_method_14_code, exceptionTable := #[], attributes := #[] }
def k8m6 : Method := { name := "toBytes", desc := "([CII)[B", sig := { parameters := [(.array .char), .int, .int], returnType := some (.array .byte) }, accessFlags := 9, code := some k8c6 }
def k8c7 : Code := { maxStack := 2, maxLocals := 2, code := jdk_52_method_15_code, exceptionTable := #[], attributes := #[] }
def k8m7 : Method := { name := "coderFromArrayLen", desc := "([BI)B", sig := { parameters := [(.array .byte), .int], returnType := some .byte }, accessFlags := 8, code := some k8c7 }
def k8c8 : Code := { maxStack := 5, maxLocals := 6, code := jdk_52_method_16_code, exceptionTable := #[], attributes := #[] }
def k8m8 : Method := { name := "compress", desc := "([CII)[B", sig := { parameters := [(.array .char), .int, .int], returnType := some (.array .byte) }, accessFlags := 9, code := some k8c8 }
def k8c9 : Code := { maxStack := 3, maxLocals := 7, code := jdk_52_method_21_code, exceptionTable := #[], attributes := #[] }
def k8m9 : Method := { name := "compress", desc := "([CI[BII)I", sig := { parameters := [(.array .char), .int, (.array .byte), .int, .int], returnType := some .int }, accessFlags := 9, code := some k8c9 }
def k8c10 : Code := { maxStack := 4, maxLocals := 6, code := jdk_52_method_86_code, exceptionTable := #[], attributes := #[] }
def k8m10 : Method := { name := "inflate", desc := "([BI[BII)V", sig := { parameters := [(.array .byte), .int, (.array .byte), .int, .int], returnType := none }, accessFlags := 9, code := some k8c10 }
def k8c11 : Code := { maxStack := 3, maxLocals := 3, code := jdk_52_method_94_code, exceptionTable := #[], attributes := #[] }
def k8m11 : Method := { name := "checkBoundsOffCount", desc := "(II[B)V", sig := { parameters := [.int, .int, (.array .byte)], returnType := none }, accessFlags := 9, code := some k8c11 }
/-- java/lang/StringUTF16 -/
def k8 : Class := { plain "java/lang/StringUTF16" (some 0) with
  accessFlags := 48
  interfaces := #[]
  cf := some (fileOf pool8 12 #[.nestMembers #[627, 629, 369]] #[{ accessFlags := 0, nameIndex := 9, descriptorIndex := 10, attributes := #[] }, { accessFlags := 9, nameIndex := 109, descriptorIndex := 110, attributes := #[] }, { accessFlags := 9, nameIndex := 15, descriptorIndex := 16, attributes := #[] }, { accessFlags := 8, nameIndex := 113, descriptorIndex := 114, attributes := #[] }, { accessFlags := 8, nameIndex := 73, descriptorIndex := 74, attributes := #[] }, { accessFlags := 9, nameIndex := 50, descriptorIndex := 51, attributes := #[] }, { accessFlags := 9, nameIndex := 121, descriptorIndex := 122, attributes := #[] }, { accessFlags := 8, nameIndex := 261, descriptorIndex := 262, attributes := #[] }, { accessFlags := 9, nameIndex := 117, descriptorIndex := 122, attributes := #[] }, { accessFlags := 9, nameIndex := 117, descriptorIndex := 118, attributes := #[] }, { accessFlags := 9, nameIndex := 140, descriptorIndex := 141, attributes := #[] }, { accessFlags := 9, nameIndex := 175, descriptorIndex := 99, attributes := #[] }] 48 6 #[] #[{ accessFlags := 26, nameIndex := 61, descriptorIndex := 62, attributes := #[] }, { accessFlags := 26, nameIndex := 65, descriptorIndex := 62, attributes := #[] }, { accessFlags := 24, nameIndex := 430, descriptorIndex := 62, attributes := #[] }, { accessFlags := 4120, nameIndex := 46, descriptorIndex := 47, attributes := #[] }])
  fields := #[{ name := "HI_BYTE_SHIFT", type := .int, accessFlags := 26, slot := 0, constantValue := 0 }, { name := "LO_BYTE_SHIFT", type := .int, accessFlags := 26, slot := 1, constantValue := 0 }, { name := "MAX_LENGTH", type := .int, accessFlags := 24, slot := 2, constantValue := 0 }, { name := "$assertionsDisabled", type := .boolean, accessFlags := 4120, slot := 3, constantValue := 0 }]
  methods := #[k8m0, k8m1, k8m2, k8m3, k8m4, k8m5, k8m6, k8m7, k8m8, k8m9, k8m10, k8m11]
  instanceTypes := #[]
  staticTypes := #[.int, .int, .int, .boolean]
  resolved := Array.replicate 635 none
  statics := some 1 }

def pool9 : Array CpInfo := pool [(1, .methodref 2 3), (0, .class_ 4), (0, .nameAndType 5 6), (0, u "java/lang/Object"), (0, u "<init>"), (0, u "()V"), (0, .fieldref 8 9), (0, .class_ 10), (0, .nameAndType 11 12), (0, u "java/lang/Throwable"), (0, u "cause"), (0, u "Ljava/lang/Throwable;"), (0, .fieldref 8 14), (0, .nameAndType 15 16), (0, u "UNASSIGNED_STACK"), (0, u "[Ljava/lang/StackTraceElement;"), (0, .fieldref 8 18), (0, .nameAndType 19 16), (0, u "stackTrace"), (0, .fieldref 8 21), (0, .nameAndType 22 23), (0, u "SUPPRESSED_SENTINEL"), (0, u "Ljava/util/List;"), (0, .fieldref 8 25), (0, .nameAndType 26 23), (0, u "suppressedExceptions"), (0, .methodref 8 28), (0, .nameAndType 29 30), (0, u "fillInStackTrace"), (0, u "()Ljava/lang/Throwable;"), (0, .fieldref 8 32), (0, .nameAndType 33 34), (0, u "detailMessage"), (0, u "Ljava/lang/String;"), (3, u "()Ljava/lang/String;"), (2, u "getMessage"), (51, .class_ 94), (0, u "java/lang/Throwable$WrappedPrintStream"), (6, .class_ 103), (1, u "java/lang/Throwable$PrintStreamOrWriter"), (61, u "$assertionsDisabled"), (0, u "Z"), (26, .class_ 194), (0, u "java/lang/Throwable$WrappedPrintWriter"), (3, .fieldref 8 199), (0, .nameAndType 200 201), (0, u "backtrace"), (0, u "Ljava/lang/Object;"), (0, .methodref 8 203), (0, .nameAndType 29 204), (0, u "(I)Ljava/lang/Throwable;"), (6, u "depth"), (0, u "I"), (10, u "(Ljava/lang/String;)V"), (45, .class_ 271), (1, u "java/lang/Throwable$SentinelHolder"), (32, u "EMPTY_THROWABLE_ARRAY"), (0, u "[Ljava/lang/Throwable;"), (12, .class_ 319), (0, u "java/io/Serializable"), (0, u "serialVersionUID"), (0, u "J"), (5, u "NULL_CAUSE_MESSAGE"), (0, u "SELF_SUPPRESSION_MESSAGE"), (0, u "CAUSE_CAPTION"), (0, u "SUPPRESSED_CAPTION")] 73

def k9c0 : Code := { maxStack := 2, maxLocals := 1, code := jdk_78_method_1_code, exceptionTable := #[], attributes := #[] }
def k9m0 : Method := { name := "<init>", desc := "()V", sig := { parameters := [], returnType := none }, accessFlags := 1, code := some k9c0 }
def k9c1 : Code := { maxStack := 2, maxLocals := 2, code := jdk_78_method_2_code, exceptionTable := #[], attributes := #[] }
def k9m1 : Method := { name := "<init>", desc := "(Ljava/lang/String;)V", sig := { parameters := [(.object "java/lang/String")], returnType := none }, accessFlags := 1, code := some k9c1 }
def k9c2 : Code := { maxStack := 1, maxLocals := 1, code := jdk_78_method_6_code, exceptionTable := #[], attributes := #[] }
def k9m2 : Method := { name := "getMessage", desc := "()Ljava/lang/String;", sig := { parameters := [], returnType := some (.object "java/lang/String") }, accessFlags := 1, code := some k9c2 }
def k9c3 : Code := { maxStack := 2, maxLocals := 1, code := ⟨#[0x2a, 0xb4, 0x00, 0x11, 0xc7, 0x00, 0x0a, 0x2a, 0xb4, 0x00, 0xc6, 0xc6, 0x00, 0x10, 0x2a, 0x03, 0xb6, 0x00, 0xca, 0x57, 0x2a, 0xb2, 0x00, 0x0d, 0xb5, 0x00, 0x11, 0x2a, 0xb0]⟩, exceptionTable := #[], attributes := #[] }
def k9m3 : Method := { name := "fillInStackTrace", desc := "()Ljava/lang/Throwable;", sig := { parameters := [], returnType := some (.object "java/lang/Throwable") }, accessFlags := 33, code := some k9c3 }
def k9m4 : Method := { name := "fillInStackTrace", desc := "(I)Ljava/lang/Throwable;", sig := { parameters := [.int], returnType := some (.object "java/lang/Throwable") }, accessFlags := 258, code := none }
/-- java/lang/Throwable -/
def k9 : Class := { plain "java/lang/Throwable" (some 0) with
  accessFlags := 33
  interfaces := #[2]
  cf := some (fileOf pool9 8 #[.nestMembers #[193, 93, 101, 269]] #[{ accessFlags := 1, nameIndex := 5, descriptorIndex := 6, attributes := #[] }, { accessFlags := 1, nameIndex := 5, descriptorIndex := 223, attributes := #[] }, { accessFlags := 1, nameIndex := 41, descriptorIndex := 38, attributes := #[] }, { accessFlags := 33, nameIndex := 29, descriptorIndex := 30, attributes := #[] }, { accessFlags := 258, nameIndex := 29, descriptorIndex := 204, attributes := #[] }] 33 2 #[318] #[{ accessFlags := 26, nameIndex := 320, descriptorIndex := 321, attributes := #[] }, { accessFlags := 130, nameIndex := 200, descriptorIndex := 201, attributes := #[] }, { accessFlags := 2, nameIndex := 33, descriptorIndex := 34, attributes := #[] }, { accessFlags := 26, nameIndex := 15, descriptorIndex := 16, attributes := #[] }, { accessFlags := 2, nameIndex := 11, descriptorIndex := 12, attributes := #[] }, { accessFlags := 2, nameIndex := 19, descriptorIndex := 16, attributes := #[] }, { accessFlags := 130, nameIndex := 211, descriptorIndex := 212, attributes := #[] }, { accessFlags := 26, nameIndex := 22, descriptorIndex := 23, attributes := #[] }, { accessFlags := 2, nameIndex := 26, descriptorIndex := 23, attributes := #[] }, { accessFlags := 26, nameIndex := 327, descriptorIndex := 34, attributes := #[] }, { accessFlags := 26, nameIndex := 328, descriptorIndex := 34, attributes := #[] }, { accessFlags := 26, nameIndex := 329, descriptorIndex := 34, attributes := #[] }, { accessFlags := 26, nameIndex := 330, descriptorIndex := 34, attributes := #[] }, { accessFlags := 26, nameIndex := 304, descriptorIndex := 305, attributes := #[] }, { accessFlags := 4120, nameIndex := 165, descriptorIndex := 166, attributes := #[] }])
  fields := #[{ name := "serialVersionUID", type := .long, accessFlags := 26, slot := 0, constantValue := 0 }, { name := "backtrace", type := (.object "java/lang/Object"), accessFlags := 130, slot := 0, constantValue := 0 }, { name := "detailMessage", type := (.object "java/lang/String"), accessFlags := 2, slot := 1, constantValue := 0 }, { name := "UNASSIGNED_STACK", type := (.array (.object "java/lang/StackTraceElement")), accessFlags := 26, slot := 1, constantValue := 0 }, { name := "cause", type := (.object "java/lang/Throwable"), accessFlags := 2, slot := 2, constantValue := 0 }, { name := "stackTrace", type := (.array (.object "java/lang/StackTraceElement")), accessFlags := 2, slot := 3, constantValue := 0 }, { name := "depth", type := .int, accessFlags := 130, slot := 4, constantValue := 0 }, { name := "SUPPRESSED_SENTINEL", type := (.object "java/util/List"), accessFlags := 26, slot := 2, constantValue := 0 }, { name := "suppressedExceptions", type := (.object "java/util/List"), accessFlags := 2, slot := 5, constantValue := 0 }, { name := "NULL_CAUSE_MESSAGE", type := (.object "java/lang/String"), accessFlags := 26, slot := 3, constantValue := 0 }, { name := "SELF_SUPPRESSION_MESSAGE", type := (.object "java/lang/String"), accessFlags := 26, slot := 4, constantValue := 0 }, { name := "CAUSE_CAPTION", type := (.object "java/lang/String"), accessFlags := 26, slot := 5, constantValue := 0 }, { name := "SUPPRESSED_CAPTION", type := (.object "java/lang/String"), accessFlags := 26, slot := 6, constantValue := 0 }, { name := "EMPTY_THROWABLE_ARRAY", type := (.array (.object "java/lang/Throwable")), accessFlags := 26, slot := 7, constantValue := 0 }, { name := "$assertionsDisabled", type := .boolean, accessFlags := 4120, slot := 8, constantValue := 0 }]
  methods := #[k9m0, k9m1, k9m2, k9m3, k9m4]
  instanceTypes := #[(.object "java/lang/Object"), (.object "java/lang/String"), (.object "java/lang/Throwable"), (.array (.object "java/lang/StackTraceElement")), .int, (.object "java/util/List")]
  staticTypes := #[.long, (.array (.object "java/lang/StackTraceElement")), (.object "java/util/List"), (.object "java/lang/String"), (.object "java/lang/String"), (.object "java/lang/String"), (.object "java/lang/String"), (.array (.object "java/lang/Throwable")), .boolean]
  resolved := Array.replicate 404 none
  statics := some 2 }

def pool10 : Array CpInfo := pool [(2, .class_ 4), (1, u "java/lang/Throwable"), (0, u "<init>"), (0, u "()V"), (0, .methodref 2 8), (0, .nameAndType 5 9), (0, u "(Ljava/lang/String;)V"), (9, .class_ 20), (0, u "java/lang/Exception"), (0, u "serialVersionUID"), (0, u "J")] 17

def k10m0 : Method := { name := "<init>", desc := "()V", sig := { parameters := [], returnType := none }, accessFlags := 1, code := none }
def k10c1 : Code := { maxStack := 2, maxLocals := 2, code := jdk_59_method_2_code, exceptionTable := #[], attributes := #[] }
def k10m1 : Method := { name := "<init>", desc := "(Ljava/lang/String;)V", sig := { parameters := [(.object "java/lang/String")], returnType := none }, accessFlags := 1, code := some k10c1 }
/-- java/lang/Exception -/
def k10 : Class := { plain "java/lang/Exception" (some 9) with
  accessFlags := 33
  interfaces := #[]
  cf := some (fileOf pool10 19 #[] #[{ accessFlags := 1, nameIndex := 5, descriptorIndex := 6, attributes := #[] }, { accessFlags := 1, nameIndex := 5, descriptorIndex := 9, attributes := #[] }] 33 2 #[] #[{ accessFlags := 24, nameIndex := 21, descriptorIndex := 22, attributes := #[] }])
  fields := #[{ name := "serialVersionUID", type := .long, accessFlags := 24, slot := 0, constantValue := 0 }]
  methods := #[k10m0, k10m1]
  instanceTypes := #[(.object "java/lang/Object"), (.object "java/lang/String"), (.object "java/lang/Throwable"), (.array (.object "java/lang/StackTraceElement")), .int, (.object "java/util/List")]
  staticTypes := #[.long]
  resolved := Array.replicate 40 none
  statics := none }

def pool11 : Array CpInfo := pool [(2, .class_ 4), (1, u "java/lang/Exception"), (0, u "<init>"), (0, u "()V"), (0, .methodref 2 8), (0, .nameAndType 5 9), (0, u "(Ljava/lang/String;)V"), (9, .class_ 20), (0, u "java/lang/RuntimeException"), (0, u "serialVersionUID"), (0, u "J")] 17

def k11m0 : Method := { name := "<init>", desc := "()V", sig := { parameters := [], returnType := none }, accessFlags := 1, code := none }
def k11c1 : Code := { maxStack := 2, maxLocals := 2, code := jdk_58_method_2_code, exceptionTable := #[], attributes := #[] }
def k11m1 : Method := { name := "<init>", desc := "(Ljava/lang/String;)V", sig := { parameters := [(.object "java/lang/String")], returnType := none }, accessFlags := 1, code := some k11c1 }
/-- java/lang/RuntimeException -/
def k11 : Class := { plain "java/lang/RuntimeException" (some 10) with
  accessFlags := 33
  interfaces := #[]
  cf := some (fileOf pool11 19 #[] #[{ accessFlags := 1, nameIndex := 5, descriptorIndex := 6, attributes := #[] }, { accessFlags := 1, nameIndex := 5, descriptorIndex := 9, attributes := #[] }] 33 2 #[] #[{ accessFlags := 24, nameIndex := 21, descriptorIndex := 22, attributes := #[] }])
  fields := #[{ name := "serialVersionUID", type := .long, accessFlags := 24, slot := 0, constantValue := 0 }]
  methods := #[k11m0, k11m1]
  instanceTypes := #[(.object "java/lang/Object"), (.object "java/lang/String"), (.object "java/lang/Throwable"), (.array (.object "java/lang/StackTraceElement")), .int, (.object "java/util/List")]
  staticTypes := #[.long]
  resolved := Array.replicate 40 none
  statics := none }

def pool12 : Array CpInfo := pool [(1, .methodref 2 3), (0, .class_ 4), (0, .nameAndType 5 6), (0, u "com/example/handover/handover/ApiError"), (0, u "<init>"), (0, u "(ILjava/lang/String;Ljava/lang/String;Ljava/lang/String;)V"), (0, .methodref 8 9), (0, .class_ 10), (0, .nameAndType 5 11), (0, u "java/lang/RuntimeException"), (0, u "(Ljava/lang/String;)V"), (0, .fieldref 2 13), (0, .nameAndType 14 15), (0, u "status"), (0, u "I"), (0, .fieldref 2 17), (0, .nameAndType 18 19), (0, u "type"), (0, u "Ljava/lang/String;"), (0, .fieldref 2 21), (0, .nameAndType 22 19), (0, u "operationId"), (8, u "(Ljava/lang/String;Ljava/lang/String;)Lcom/example/handover/handover/ApiError;"), (14, .class_ 47), (0, u "java/lang/StringBuilder"), (0, .methodref 46 49), (0, .nameAndType 5 50), (0, u "()V"), (2, .methodref 46 54), (0, .nameAndType 55 56), (0, u "append"), (0, u "(Ljava/lang/String;)Ljava/lang/StringBuilder;"), (0, .string 58), (0, u "]"), (0, .methodref 46 60), (0, .nameAndType 61 62), (0, u "toString"), (0, u "()Ljava/lang/String;"), (4, .string 68), (0, u "operation ["), (4, .string 74), (0, u "operation_not_running"), (0, .string 76), (0, u "] is not running: it is ["), (21, u "serialVersionUID"), (0, u "J"), (11, u "operationNotRunning"), (5, u "()I")] 2

def k12c0 : Code := { maxStack := 2, maxLocals := 5, code := prog_1_method_2_code, exceptionTable := #[], attributes := #[] }
def k12m0 : Method := { name := "<init>", desc := "(ILjava/lang/String;Ljava/lang/String;Ljava/lang/String;)V", sig := { parameters := [.int, (.object "java/lang/String"), (.object "java/lang/String"), (.object "java/lang/String")], returnType := none }, accessFlags := 2, code := some k12c0 }
def k12c1 : Code := { maxStack := 6, maxLocals := 2, code := prog_1_method_11_code, exceptionTable := #[], attributes := #[] }
def k12m1 : Method := { name := "operationNotRunning", desc := "(Ljava/lang/String;Ljava/lang/String;)Lcom/example/handover/handover/ApiError;", sig := { parameters := [(.object "java/lang/String"), (.object "java/lang/String")], returnType := some (.object "com/example/handover/handover/ApiError") }, accessFlags := 8, code := some k12c1 }
def k12c2 : Code := { maxStack := 1, maxLocals := 1, code := prog_1_method_16_code, exceptionTable := #[], attributes := #[] }
def k12m2 : Method := { name := "status", desc := "()I", sig := { parameters := [], returnType := some .int }, accessFlags := 0, code := some k12c2 }
def k12c3 : Code := { maxStack := 1, maxLocals := 1, code := prog_1_method_17_code, exceptionTable := #[], attributes := #[] }
def k12m3 : Method := { name := "type", desc := "()Ljava/lang/String;", sig := { parameters := [], returnType := some (.object "java/lang/String") }, accessFlags := 0, code := some k12c3 }
def k12c4 : Code := { maxStack := 1, maxLocals := 1, code := prog_1_method_18_code, exceptionTable := #[], attributes := #[] }
def k12m4 : Method := { name := "operationId", desc := "()Ljava/lang/String;", sig := { parameters := [], returnType := some (.object "java/lang/String") }, accessFlags := 0, code := some k12c4 }
/-- com/example/handover/handover/ApiError -/
def k12 : Class := { plain "com/example/handover/handover/ApiError" (some 11) with
  accessFlags := 48
  interfaces := #[]
  cf := some (fileOf pool12 2 #[] #[{ accessFlags := 2, nameIndex := 5, descriptorIndex := 6, attributes := #[] }, { accessFlags := 8, nameIndex := 111, descriptorIndex := 31, attributes := #[] }, { accessFlags := 0, nameIndex := 14, descriptorIndex := 117, attributes := #[] }, { accessFlags := 0, nameIndex := 18, descriptorIndex := 62, attributes := #[] }, { accessFlags := 0, nameIndex := 22, descriptorIndex := 62, attributes := #[] }] 48 8 #[] #[{ accessFlags := 26, nameIndex := 98, descriptorIndex := 99, attributes := #[] }, { accessFlags := 18, nameIndex := 14, descriptorIndex := 15, attributes := #[] }, { accessFlags := 18, nameIndex := 18, descriptorIndex := 19, attributes := #[] }, { accessFlags := 18, nameIndex := 22, descriptorIndex := 19, attributes := #[] }])
  fields := #[{ name := "serialVersionUID", type := .long, accessFlags := 26, slot := 0, constantValue := 0 }, { name := "status", type := .int, accessFlags := 18, slot := 6, constantValue := 0 }, { name := "type", type := (.object "java/lang/String"), accessFlags := 18, slot := 7, constantValue := 0 }, { name := "operationId", type := (.object "java/lang/String"), accessFlags := 18, slot := 8, constantValue := 0 }]
  methods := #[k12m0, k12m1, k12m2, k12m3, k12m4]
  instanceTypes := #[(.object "java/lang/Object"), (.object "java/lang/String"), (.object "java/lang/Throwable"), (.array (.object "java/lang/StackTraceElement")), .int, (.object "java/util/List"), .int, (.object "java/lang/String"), (.object "java/lang/String")]
  staticTypes := #[.long]
  resolved := Array.replicate 120 none
  statics := none }

def pool13 : Array CpInfo := pool [(1, .class_ 2), (0, u "java/lang/Appendable"), (0, .class_ 4), (0, u "java/lang/Object")] 9

/-- java/lang/Appendable -/
def k13 : Class := { plain "java/lang/Appendable" (some 0) with
  accessFlags := 1537
  interfaces := #[]
  cf := some (fileOf pool13 1 #[] #[] 1537 3 #[] #[])
  fields := #[]
  methods := #[]
  instanceTypes := #[]
  staticTypes := #[]
  resolved := Array.replicate 14 none
  statics := none }

def pool14 : Array CpInfo := pool [(1, .class_ 2), (0, u "java/lang/String"), (0, .methodref 4 5), (0, .class_ 6), (0, .nameAndType 7 8), (0, u "java/lang/Object"), (0, u "<init>"), (0, u "()V"), (1, .class_ 12), (1, u "java/lang/AbstractStringBuilder"), (0, u "EMPTYVALUE"), (0, u "[B"), (0, .fieldref 10 16), (0, .nameAndType 17 14), (0, u "value"), (0, .fieldref 1 19), (0, .nameAndType 20 21), (0, u "COMPACT_STRINGS"), (0, u "Z"), (0, .fieldref 10 23), (0, .nameAndType 24 25), (0, u "coder"), (0, u "B"), (0, .methodref 27 28), (0, .class_ 29), (0, .nameAndType 30 31), (0, u "java/lang/StringUTF16"), (0, u "newBytesFor"), (0, u "(I)[B"), (0, .methodref 1 33), (0, .nameAndType 34 35), (0, u "length"), (0, u "()I"), (3, .integer 2147483647), (0, .methodref 1 41), (0, .nameAndType 24 42), (0, u "()B"), (2, u "append"), (0, u "(Ljava/lang/String;)Ljava/lang/AbstractStringBuilder;"), (1, .class_ 49), (0, u "java/lang/CharSequence"), (19, u "(Ljava/lang/String;)V"), (5, u "maybeLatin1"), (3, .fieldref 10 80), (0, .nameAndType 81 82), (0, u "count"), (0, u "I"), (0, .methodref 10 84), (0, .nameAndType 85 86), (0, u "isLatin1"), (0, u "()Z"), (1, .class_ 90), (1, u "java/lang/StringLatin1"), (9, .methodref 10 101), (0, .nameAndType 102 103), (0, u "ensureCapacityInternal"), (0, u "(I)V"), (0, .methodref 10 105), (0, .nameAndType 106 107), (0, u "newCapacity"), (0, u "(I)I"), (0, .methodref 109 110), (0, .class_ 111), (0, .nameAndType 112 113), (0, u "java/util/Arrays"), (0, u "copyOf"), (0, u "([BI)[B"), (0, .methodref 115 116), (0, .class_ 117), (0, .nameAndType 118 119), (0, u "jdk/internal/util/ArraysSupport"), (0, u "newLength"), (0, u "(III)I"), (5, .methodref 88 126), (0, .nameAndType 127 128), (0, u "inflate"), (0, u "([BI[BII)V"), (66, .methodref 10 196), (0, .nameAndType 127 8), (11, .methodref 10 209), (0, .nameAndType 210 211), (0, u "putStringAt"), (0, u "(ILjava/lang/String;)V"), (5, u "inflateIfNeededFor"), (2, .nameAndType 221 222), (0, u "getBytes"), (0, u "([BIB)V"), (174, .methodref 10 398), (0, .nameAndType 217 69), (0, .methodref 1 220), (3, u "()[B"), (40, .class_ 445), (0, u "java/lang/Appendable"), (106, u "getValue")] 56

def k14m0 : Method := { name := "<init>", desc := "()V", sig := { parameters := [], returnType := none }, accessFlags := 0, code := none }
def k14c1 : Code := { maxStack := 2, maxLocals := 2, code := jdk_68_method_2_code, exceptionTable := #[], attributes := #[] }
def k14m1 : Method := { name := "<init>", desc := "(I)V", sig := { parameters := [.int], returnType := none }, accessFlags := 0, code := some k14c1 }
def k14c2 : Code := { maxStack := 1, maxLocals := 1, code := jdk_68_method_6_code, exceptionTable := #[], attributes := #[] }
def k14m2 : Method := { name := "length", desc := "()I", sig := { parameters := [], returnType := some .int }, accessFlags := 1, code := some k14c2 }
def k14c3 : Code := { maxStack := 4, maxLocals := 3, code := jdk_68_method_9_code, exceptionTable := #[], attributes := #[] }
def k14m3 : Method := { name := "ensureCapacityInternal", desc := "(I)V", sig := { parameters := [.int], returnType := none }, accessFlags := 2, code := some k14c3 }
def k14c4 : Code := { maxStack := 5, maxLocals := 6, code := jdk_68_method_10_code, exceptionTable := #[], attributes := #[] }
def k14m4 : Method := { name := "newCapacity", desc := "(I)I", sig := { parameters := [.int], returnType := some .int }, accessFlags := 2, code := some k14c4 }
def k14c5 : Code := { maxStack := 5, maxLocals := 2, code := jdk_68_method_11_code, exceptionTable := #[], attributes := #[] }
def k14m5 : Method := { name := "inflate", desc := "()V", sig := { parameters := [], returnType := none }, accessFlags := 2, code := some k14c5 }
def k14c6 : Code := { maxStack := 3, maxLocals := 3, code := jdk_68_method_22_code, exceptionTable := #[], attributes := #[] }
def k14m6 : Method := { name := "append", desc := "(Ljava/lang/String;)Ljava/lang/AbstractStringBuilder;", sig := { parameters := [(.object "java/lang/String")], returnType := some (.object "java/lang/AbstractStringBuilder") }, accessFlags := 1, code := some k14c6 }
def k14c7 : Code := { maxStack := 1, maxLocals := 1, code := jdk_68_method_64_code, exceptionTable := #[], attributes := #[] }
def k14m7 : Method := { name := "getValue", desc := "()[B", sig := { parameters := [], returnType := some (.array .byte) }, accessFlags := 16, code := some k14c7 }
def k14c8 : Code := { maxStack := 1, maxLocals := 1, code := jdk_68_method_68_code, exceptionTable := #[], attributes := #[] }
def k14m8 : Method := { name := "isLatin1", desc := "()Z", sig := { parameters := [], returnType := some .boolean }, accessFlags := 16, code := some k14c8 }
def k14c9 : Code := { maxStack := 2, maxLocals := 2, code := jdk_68_method_71_code, exceptionTable := #[], attributes := #[] }
def k14m9 : Method := { name := "inflateIfNeededFor", desc := "(Ljava/lang/String;)V", sig := { parameters := [(.object "java/lang/String")], returnType := none }, accessFlags := 2, code := some k14c9 }
def k14c10 : Code := { maxStack := 4, maxLocals := 3, code := jdk_68_method_73_code, exceptionTable := #[], attributes := #[] }
def k14m10 : Method := { name := "putStringAt", desc := "(ILjava/lang/String;)V", sig := { parameters := [.int, (.object "java/lang/String")], returnType := none }, accessFlags := 2, code := some k14c10 }
/-- java/lang/AbstractStringBuilder -/
def k14 : Class := { plain "java/lang/AbstractStringBuilder" (some 0) with
  accessFlags := 1056
  interfaces := #[13, 4]
  cf := some (fileOf pool14 10 #[] #[{ accessFlags := 0, nameIndex := 7, descriptorIndex := 8, attributes := #[] }, { accessFlags := 0, nameIndex := 7, descriptorIndex := 103, attributes := #[] }, { accessFlags := 1, nameIndex := 34, descriptorIndex := 35, attributes := #[] }, { accessFlags := 2, nameIndex := 102, descriptorIndex := 103, attributes := #[] }, { accessFlags := 2, nameIndex := 106, descriptorIndex := 107, attributes := #[] }, { accessFlags := 2, nameIndex := 127, descriptorIndex := 8, attributes := #[] }, { accessFlags := 1, nameIndex := 45, descriptorIndex := 46, attributes := #[] }, { accessFlags := 16, nameIndex := 552, descriptorIndex := 403, attributes := #[] }, { accessFlags := 16, nameIndex := 85, descriptorIndex := 86, attributes := #[] }, { accessFlags := 2, nameIndex := 217, descriptorIndex := 69, attributes := #[] }, { accessFlags := 2, nameIndex := 210, descriptorIndex := 211, attributes := #[] }] 1056 4 #[444, 48] #[{ accessFlags := 0, nameIndex := 17, descriptorIndex := 14, attributes := #[] }, { accessFlags := 0, nameIndex := 24, descriptorIndex := 25, attributes := #[] }, { accessFlags := 0, nameIndex := 75, descriptorIndex := 21, attributes := #[] }, { accessFlags := 0, nameIndex := 81, descriptorIndex := 82, attributes := #[] }, { accessFlags := 26, nameIndex := 13, descriptorIndex := 14, attributes := #[] }])
  fields := #[{ name := "value", type := (.array .byte), accessFlags := 0, slot := 0, constantValue := 0 }, { name := "coder", type := .byte, accessFlags := 0, slot := 1, constantValue := 0 }, { name := "maybeLatin1", type := .boolean, accessFlags := 0, slot := 2, constantValue := 0 }, { name := "count", type := .int, accessFlags := 0, slot := 3, constantValue := 0 }, { name := "EMPTYVALUE", type := (.array .byte), accessFlags := 26, slot := 0, constantValue := 0 }]
  methods := #[k14m0, k14m1, k14m2, k14m3, k14m4, k14m5, k14m6, k14m7, k14m8, k14m9, k14m10]
  instanceTypes := #[(.array .byte), .byte, .boolean, .int]
  staticTypes := #[(.array .byte)]
  resolved := Array.replicate 609 none
  statics := none }

def pool15 : Array CpInfo := pool [(1, .methodref 2 3), (0, .class_ 4), (0, .nameAndType 5 6), (0, u "java/lang/AbstractStringBuilder"), (0, u "<init>"), (0, u "(I)V"), (11, .class_ 20), (1, u "java/lang/String"), (3, .class_ 26), (1, u "java/lang/StringBuilder"), (0, u "append"), (0, u "(Ljava/lang/String;)Ljava/lang/StringBuilder;"), (0, .methodref 2 30), (0, .nameAndType 27 31), (0, u "(Ljava/lang/String;)Ljava/lang/AbstractStringBuilder;"), (105, .methodref 18 138), (0, .nameAndType 5 139), (0, u "(Ljava/lang/StringBuilder;)V"), (5, u "()V"), (10, u "()I"), (186, .methodref 2 344), (0, .nameAndType 345 156), (0, u "length"), (3, .class_ 350), (0, u "java/lang/Appendable"), (0, .class_ 352), (0, u "java/io/Serializable"), (0, .class_ 354), (0, u "java/lang/Comparable"), (0, .class_ 356), (0, u "java/lang/CharSequence"), (0, u "serialVersionUID"), (0, u "J"), (40, u "toString"), (0, u "()Ljava/lang/String;")] 21

def k15c0 : Code := { maxStack := 2, maxLocals := 1, code := jdk_67_method_1_code, exceptionTable := #[], attributes := #[] }
def k15m0 : Method := { name := "<init>", desc := "()V", sig := { parameters := [], returnType := none }, accessFlags := 1, code := some k15c0 }
def k15c1 : Code := { maxStack := 2, maxLocals := 2, code := jdk_67_method_7_code, exceptionTable := #[], attributes := #[] }
def k15m1 : Method := { name := "append", desc := "(Ljava/lang/String;)Ljava/lang/StringBuilder;", sig := { parameters := [(.object "java/lang/String")], returnType := some (.object "java/lang/StringBuilder") }, accessFlags := 1, code := some k15c1 }
def k15c2 : Code := { maxStack := 3, maxLocals := 1, code := jdk_67_method_42_code, exceptionTable := #[], attributes := #[] }
def k15m2 : Method := { name := "toString", desc := "()Ljava/lang/String;", sig := { parameters := [], returnType := some (.object "java/lang/String") }, accessFlags := 1, code := some k15c2 }
def k15c3 : Code := { maxStack := 1, maxLocals := 1, code := jdk_67_method_93_code, exceptionTable := #[], attributes := #[] }
def k15m3 : Method := { name := "length", desc := "()I", sig := { parameters := [], returnType := some .int }, accessFlags := 4161, code := some k15c3 }
/-- java/lang/StringBuilder -/
def k15 : Class := { plain "java/lang/StringBuilder" (some 14) with
  accessFlags := 49
  interfaces := #[13, 2, 3, 4]
  cf := some (fileOf pool15 24 #[] #[{ accessFlags := 1, nameIndex := 5, descriptorIndex := 145, attributes := #[] }, { accessFlags := 1, nameIndex := 27, descriptorIndex := 28, attributes := #[] }, { accessFlags := 1, nameIndex := 399, descriptorIndex := 400, attributes := #[] }, { accessFlags := 4161, nameIndex := 345, descriptorIndex := 156, attributes := #[] }] 49 2 #[349, 351, 353, 355] #[{ accessFlags := 24, nameIndex := 357, descriptorIndex := 358, attributes := #[] }])
  fields := #[{ name := "serialVersionUID", type := .long, accessFlags := 24, slot := 0, constantValue := 0 }]
  methods := #[k15m0, k15m1, k15m2, k15m3]
  instanceTypes := #[(.array .byte), .byte, .boolean, .int]
  staticTypes := #[.long]
  resolved := Array.replicate 422 none
  statics := none }

def pool16 : Array CpInfo := pool [(2, .class_ 4), (1, u "java/lang/Object"), (0, u "<init>"), (0, u "()V"), (1, .class_ 10), (1, u "java/lang/System"), (0, u "allowSecurityManager"), (0, u "I"), (16, u "cons"), (0, u "Ljava/io/Console;"), (77, .class_ 110), (1, u "java/lang/System$CallersHolder"), (43, u "initialErrStream"), (0, u "Ljava/io/PrintStream;"), (19, u "security"), (0, u "Ljava/lang/SecurityManager;"), (31, .class_ 209), (0, u "java/lang/System$1"), (7, u "props"), (0, u "Ljava/util/Properties;"), (2, u "lineSeparator"), (0, u "Ljava/lang/String;"), (96, .class_ 321), (1, u "java/lang/System$LoggerFinder"), (5, .class_ 328), (0, u "java/lang/System$Logger"), (67, u "err"), (2, u "out"), (91, u "notSupportedJnuEncoding"), (15, u "in"), (17, u "initialIn"), (0, u "Ljava/io/InputStream;"), (35, u "bootLayer"), (0, u "Ljava/lang/ModuleLayer;"), (99, .class_ 664), (0, u "java/lang/System$2"), (9, u "NEVER"), (2, u "MAYBE"), (49, u "arraycopy"), (0, u "(Ljava/lang/Object;ILjava/lang/Object;II)V"), (72, .class_ 802), (0, u "java/lang/System$Logger$Level")] 31

def k16m0 : Method := { name := "<init>", desc := "()V", sig := { parameters := [], returnType := none }, accessFlags := 2, code := none }
def k16m1 : Method := { name := "arraycopy", desc := "(Ljava/lang/Object;ILjava/lang/Object;II)V", sig := { parameters := [(.object "java/lang/Object"), .int, (.object "java/lang/Object"), .int, .int], returnType := none }, accessFlags := 265, code := none }
/-- java/lang/System -/
def k16 : Class := { plain "java/lang/System" (some 0) with
  accessFlags := 49
  interfaces := #[]
  cf := some (fileOf pool16 8 #[.nestMembers #[319, 327, 801, 108, 663, 208]] #[{ accessFlags := 2, nameIndex := 5, descriptorIndex := 6, attributes := #[] }, { accessFlags := 265, nameIndex := 727, descriptorIndex := 728, attributes := #[] }] 49 2 #[] #[{ accessFlags := 25, nameIndex := 507, descriptorIndex := 526, attributes := #[] }, { accessFlags := 25, nameIndex := 399, descriptorIndex := 155, attributes := #[] }, { accessFlags := 25, nameIndex := 396, descriptorIndex := 155, attributes := #[] }, { accessFlags := 10, nameIndex := 525, descriptorIndex := 526, attributes := #[] }, { accessFlags := 26, nameIndex := 674, descriptorIndex := 12, attributes := #[] }, { accessFlags := 26, nameIndex := 677, descriptorIndex := 12, attributes := #[] }, { accessFlags := 10, nameIndex := 11, descriptorIndex := 12, attributes := #[] }, { accessFlags := 74, nameIndex := 175, descriptorIndex := 176, attributes := #[] }, { accessFlags := 10, nameIndex := 491, descriptorIndex := 222, attributes := #[] }, { accessFlags := 74, nameIndex := 29, descriptorIndex := 30, attributes := #[] }, { accessFlags := 74, nameIndex := 154, descriptorIndex := 155, attributes := #[] }, { accessFlags := 10, nameIndex := 217, descriptorIndex := 218, attributes := #[] }, { accessFlags := 10, nameIndex := 221, descriptorIndex := 222, attributes := #[] }, { accessFlags := 8, nameIndex := 562, descriptorIndex := 563, attributes := #[] }])
  fields := #[{ name := "in", type := (.object "java/io/InputStream"), accessFlags := 25, slot := 0, constantValue := 0 }, { name := "out", type := (.object "java/io/PrintStream"), accessFlags := 25, slot := 1, constantValue := 0 }, { name := "err", type := (.object "java/io/PrintStream"), accessFlags := 25, slot := 2, constantValue := 0 }, { name := "initialIn", type := (.object "java/io/InputStream"), accessFlags := 10, slot := 3, constantValue := 0 }, { name := "NEVER", type := .int, accessFlags := 26, slot := 4, constantValue := 0 }, { name := "MAYBE", type := .int, accessFlags := 26, slot := 5, constantValue := 0 }, { name := "allowSecurityManager", type := .int, accessFlags := 10, slot := 6, constantValue := 0 }, { name := "security", type := (.object "java/lang/SecurityManager"), accessFlags := 74, slot := 7, constantValue := 0 }, { name := "notSupportedJnuEncoding", type := (.object "java/lang/String"), accessFlags := 10, slot := 8, constantValue := 0 }, { name := "cons", type := (.object "java/io/Console"), accessFlags := 74, slot := 9, constantValue := 0 }, { name := "initialErrStream", type := (.object "java/io/PrintStream"), accessFlags := 74, slot := 10, constantValue := 0 }, { name := "props", type := (.object "java/util/Properties"), accessFlags := 10, slot := 11, constantValue := 0 }, { name := "lineSeparator", type := (.object "java/lang/String"), accessFlags := 10, slot := 12, constantValue := 0 }, { name := "bootLayer", type := (.object "java/lang/ModuleLayer"), accessFlags := 8, slot := 13, constantValue := 0 }]
  methods := #[k16m0, k16m1]
  instanceTypes := #[]
  staticTypes := #[(.object "java/io/InputStream"), (.object "java/io/PrintStream"), (.object "java/io/PrintStream"), (.object "java/io/InputStream"), .int, .int, .int, (.object "java/lang/SecurityManager"), (.object "java/lang/String"), (.object "java/io/Console"), (.object "java/io/PrintStream"), (.object "java/util/Properties"), (.object "java/lang/String"), (.object "java/lang/ModuleLayer")]
  resolved := Array.replicate 834 none
  statics := none }

def pool17 : Array CpInfo := pool [(9, u "<init>"), (6, .class_ 18), (1, u "java/lang/Object"), (0, u "()V"), (1, .class_ 23), (1, u "jdk/internal/util/ArraysSupport"), (0, u "LOG2_ARRAY_LONG_INDEX_SCALE"), (0, u "I"), (2, u "U"), (0, u "Ljdk/internal/misc/Unsafe;"), (8, u "BIG_ENDIAN"), (0, u "Z"), (8, u "LOG2_BYTE_BIT_SIZE"), (4, u "LOG2_ARRAY_INT_INDEX_SCALE"), (54, u "JLA"), (0, u "Ljdk/internal/access/JavaLangAccess;"), (11, u "LOG2_ARRAY_BOOLEAN_INDEX_SCALE"), (9, u "LOG2_ARRAY_BYTE_INDEX_SCALE"), (5, u "LOG2_ARRAY_CHAR_INDEX_SCALE"), (5, u "LOG2_ARRAY_SHORT_INDEX_SCALE"), (18, u "LOG2_ARRAY_FLOAT_INDEX_SCALE"), (24, u "LOG2_ARRAY_DOUBLE_INDEX_SCALE"), (6, .methodref 195 196), (0, .class_ 197), (0, .nameAndType 198 199), (0, u "java/lang/Math"), (0, u "max"), (0, u "(II)I"), (0, .integer 2147483639), (76, u "T_BOOLEAN"), (2, u "T_CHAR"), (1, u "T_FLOAT"), (1, u "T_DOUBLE"), (1, u "T_BYTE"), (1, u "T_SHORT"), (1, u "T_INT"), (1, u "T_LONG"), (1, u "SOFT_MAX_ARRAY_LENGTH"), (56, u "newLength"), (0, u "(III)I")] 25

def k17m0 : Method := { name := "<init>", desc := "()V", sig := { parameters := [], returnType := none }, accessFlags := 2, code := none }
def k17c1 : Code := { maxStack := 3, maxLocals := 4, code := jdk_48_method_27_code, exceptionTable := #[], attributes := #[] }
def k17m1 : Method := { name := "newLength", desc := "(III)I", sig := { parameters := [.int, .int, .int], returnType := some .int }, accessFlags := 9, code := some k17c1 }
/-- jdk/internal/util/ArraysSupport -/
def k17 : Class := { plain "jdk/internal/util/ArraysSupport" (some 0) with
  accessFlags := 33
  interfaces := #[]
  cf := some (fileOf pool17 21 #[] #[{ accessFlags := 2, nameIndex := 9, descriptorIndex := 19, attributes := #[] }, { accessFlags := 9, nameIndex := 351, descriptorIndex := 352, attributes := #[] }] 33 16 #[] #[{ accessFlags := 24, nameIndex := 28, descriptorIndex := 29, attributes := #[] }, { accessFlags := 26, nameIndex := 38, descriptorIndex := 39, attributes := #[] }, { accessFlags := 25, nameIndex := 121, descriptorIndex := 25, attributes := #[] }, { accessFlags := 25, nameIndex := 131, descriptorIndex := 25, attributes := #[] }, { accessFlags := 25, nameIndex := 137, descriptorIndex := 25, attributes := #[] }, { accessFlags := 25, nameIndex := 143, descriptorIndex := 25, attributes := #[] }, { accessFlags := 25, nameIndex := 53, descriptorIndex := 25, attributes := #[] }, { accessFlags := 25, nameIndex := 24, descriptorIndex := 25, attributes := #[] }, { accessFlags := 25, nameIndex := 162, descriptorIndex := 25, attributes := #[] }, { accessFlags := 25, nameIndex := 187, descriptorIndex := 25, attributes := #[] }, { accessFlags := 26, nameIndex := 48, descriptorIndex := 25, attributes := #[] }, { accessFlags := 25, nameIndex := 277, descriptorIndex := 25, attributes := #[] }, { accessFlags := 25, nameIndex := 280, descriptorIndex := 25, attributes := #[] }, { accessFlags := 25, nameIndex := 282, descriptorIndex := 25, attributes := #[] }, { accessFlags := 25, nameIndex := 284, descriptorIndex := 25, attributes := #[] }, { accessFlags := 25, nameIndex := 286, descriptorIndex := 25, attributes := #[] }, { accessFlags := 25, nameIndex := 288, descriptorIndex := 25, attributes := #[] }, { accessFlags := 25, nameIndex := 290, descriptorIndex := 25, attributes := #[] }, { accessFlags := 25, nameIndex := 292, descriptorIndex := 25, attributes := #[] }, { accessFlags := 26, nameIndex := 108, descriptorIndex := 109, attributes := #[] }, { accessFlags := 25, nameIndex := 294, descriptorIndex := 25, attributes := #[] }])
  fields := #[{ name := "U", type := (.object "jdk/internal/misc/Unsafe"), accessFlags := 24, slot := 0, constantValue := 0 }, { name := "BIG_ENDIAN", type := .boolean, accessFlags := 26, slot := 1, constantValue := 0 }, { name := "LOG2_ARRAY_BOOLEAN_INDEX_SCALE", type := .int, accessFlags := 25, slot := 2, constantValue := 0 }, { name := "LOG2_ARRAY_BYTE_INDEX_SCALE", type := .int, accessFlags := 25, slot := 3, constantValue := 0 }, { name := "LOG2_ARRAY_CHAR_INDEX_SCALE", type := .int, accessFlags := 25, slot := 4, constantValue := 0 }, { name := "LOG2_ARRAY_SHORT_INDEX_SCALE", type := .int, accessFlags := 25, slot := 5, constantValue := 0 }, { name := "LOG2_ARRAY_INT_INDEX_SCALE", type := .int, accessFlags := 25, slot := 6, constantValue := 0 }, { name := "LOG2_ARRAY_LONG_INDEX_SCALE", type := .int, accessFlags := 25, slot := 7, constantValue := 0 }, { name := "LOG2_ARRAY_FLOAT_INDEX_SCALE", type := .int, accessFlags := 25, slot := 8, constantValue := 0 }, { name := "LOG2_ARRAY_DOUBLE_INDEX_SCALE", type := .int, accessFlags := 25, slot := 9, constantValue := 0 }, { name := "LOG2_BYTE_BIT_SIZE", type := .int, accessFlags := 26, slot := 10, constantValue := 0 }, { name := "T_BOOLEAN", type := .int, accessFlags := 25, slot := 11, constantValue := 0 }, { name := "T_CHAR", type := .int, accessFlags := 25, slot := 12, constantValue := 0 }, { name := "T_FLOAT", type := .int, accessFlags := 25, slot := 13, constantValue := 0 }, { name := "T_DOUBLE", type := .int, accessFlags := 25, slot := 14, constantValue := 0 }, { name := "T_BYTE", type := .int, accessFlags := 25, slot := 15, constantValue := 0 }, { name := "T_SHORT", type := .int, accessFlags := 25, slot := 16, constantValue := 0 }, { name := "T_INT", type := .int, accessFlags := 25, slot := 17, constantValue := 0 }, { name := "T_LONG", type := .int, accessFlags := 25, slot := 18, constantValue := 0 }, { name := "JLA", type := (.object "jdk/internal/access/JavaLangAccess"), accessFlags := 26, slot := 19, constantValue := 0 }, { name := "SOFT_MAX_ARRAY_LENGTH", type := .int, accessFlags := 25, slot := 20, constantValue := 0 }]
  methods := #[k17m0, k17m1]
  instanceTypes := #[]
  staticTypes := #[(.object "jdk/internal/misc/Unsafe"), .boolean, .int, .int, .int, .int, .int, .int, .int, .int, .int, .int, .int, .int, .int, .int, .int, .int, .int, (.object "jdk/internal/access/JavaLangAccess"), .int]
  resolved := Array.replicate 378 none
  statics := none }

def pool18 : Array CpInfo := pool [(1, .class_ 2), (0, u "java/lang/Math"), (1, .class_ 6), (1, u "java/lang/Object"), (0, u "<init>"), (0, u "()V"), (89, .class_ 100), (1, u "java/lang/Math$RandomNumberGeneratorHolder"), (71, u "negativeZeroFloatBits"), (0, u "J"), (2, u "negativeZeroDoubleBits"), (21, u "max"), (2, u "min"), (43, u "$assertionsDisabled"), (0, u "Z"), (88, u "(II)I"), (2, u "twoToTheDoubleScaleDown"), (0, u "D"), (4, u "twoToTheDoubleScaleUp"), (9, u "E"), (3, u "PI"), (2, u "TAU"), (2, u "DEGREES_TO_RADIANS"), (0, u "RADIANS_TO_DEGREES")] 94

def k18m0 : Method := { name := "<init>", desc := "()V", sig := { parameters := [], returnType := none }, accessFlags := 2, code := none }
def k18c1 : Code := { maxStack := 2, maxLocals := 2, code := jdk_29_method_65_code, exceptionTable := #[], attributes := #[] }
def k18m1 : Method := { name := "max", desc := "(II)I", sig := { parameters := [.int, .int], returnType := some .int }, accessFlags := 9, code := some k18c1 }
def k18c2 : Code := { maxStack := 2, maxLocals := 2, code := jdk_29_method_69_code, exceptionTable := #[], attributes := #[] }
def k18m2 : Method := { name := "min", desc := "(II)I", sig := { parameters := [.int, .int], returnType := some .int }, accessFlags := 9, code := some k18c2 }
/-- java/lang/Math -/
def k18 : Class := { plain "java/lang/Math" (some 0) with
  accessFlags := 49
  interfaces := #[]
  cf := some (fileOf pool18 1 #[.nestMembers #[98]] #[{ accessFlags := 2, nameIndex := 7, descriptorIndex := 8, attributes := #[] }, { accessFlags := 9, nameIndex := 198, descriptorIndex := 335, attributes := #[] }, { accessFlags := 9, nameIndex := 201, descriptorIndex := 335, attributes := #[] }] 49 4 #[] #[{ accessFlags := 25, nameIndex := 354, descriptorIndex := 339, attributes := #[] }, { accessFlags := 25, nameIndex := 358, descriptorIndex := 339, attributes := #[] }, { accessFlags := 25, nameIndex := 361, descriptorIndex := 339, attributes := #[] }, { accessFlags := 26, nameIndex := 364, descriptorIndex := 339, attributes := #[] }, { accessFlags := 26, nameIndex := 365, descriptorIndex := 339, attributes := #[] }, { accessFlags := 26, nameIndex := 172, descriptorIndex := 173, attributes := #[] }, { accessFlags := 26, nameIndex := 176, descriptorIndex := 173, attributes := #[] }, { accessFlags := 8, nameIndex := 344, descriptorIndex := 339, attributes := #[] }, { accessFlags := 8, nameIndex := 338, descriptorIndex := 339, attributes := #[] }, { accessFlags := 4120, nameIndex := 245, descriptorIndex := 246, attributes := #[] }])
  fields := #[{ name := "E", type := .double, accessFlags := 25, slot := 0, constantValue := 0 }, { name := "PI", type := .double, accessFlags := 25, slot := 1, constantValue := 0 }, { name := "TAU", type := .double, accessFlags := 25, slot := 2, constantValue := 0 }, { name := "DEGREES_TO_RADIANS", type := .double, accessFlags := 26, slot := 3, constantValue := 0 }, { name := "RADIANS_TO_DEGREES", type := .double, accessFlags := 26, slot := 4, constantValue := 0 }, { name := "negativeZeroFloatBits", type := .long, accessFlags := 26, slot := 5, constantValue := 0 }, { name := "negativeZeroDoubleBits", type := .long, accessFlags := 26, slot := 6, constantValue := 0 }, { name := "twoToTheDoubleScaleUp", type := .double, accessFlags := 8, slot := 7, constantValue := 0 }, { name := "twoToTheDoubleScaleDown", type := .double, accessFlags := 8, slot := 8, constantValue := 0 }, { name := "$assertionsDisabled", type := .boolean, accessFlags := 4120, slot := 9, constantValue := 0 }]
  methods := #[k18m0, k18m1, k18m2]
  instanceTypes := #[]
  staticTypes := #[.double, .double, .double, .double, .double, .long, .long, .double, .double, .boolean]
  resolved := Array.replicate 460 none
  statics := none }

def pool19 : Array CpInfo := pool [(2, .class_ 4), (1, u "java/lang/Object"), (0, u "<init>"), (0, u "()V"), (7, .class_ 16), (1, u "java/util/Arrays"), (57, .class_ 76), (1, u "java/util/Arrays$NaturalOrder"), (36, .class_ 115), (1, u "java/util/Arrays$LegacyMergeSort"), (1, u "Z"), (21, u "copyOfRange"), (10, .methodref 151 152), (0, .class_ 153), (0, .nameAndType 154 155), (0, u "java/lang/System"), (0, u "arraycopy"), (0, u "(Ljava/lang/Object;ILjava/lang/Object;II)V"), (146, u "copyOf"), (1, .methodref 305 306), (0, .class_ 307), (0, .nameAndType 308 309), (0, u "java/lang/Math"), (0, u "min"), (0, u "(II)I"), (29, .methodref 14 340), (0, .nameAndType 341 342), (0, u "copyOfRangeByte"), (0, u "([BII)[B"), (0, .methodref 14 344), (0, .nameAndType 345 346), (0, u "checkLength"), (0, u "(II)V"), (28, .class_ 376), (0, u "java/util/Arrays$ArrayList"), (68, u "$assertionsDisabled"), (269, u "MIN_ARRAY_SORT_GRAN"), (0, u "I"), (2, u "INSERTIONSORT_THRESHOLD"), (149, u "([BI)[B"), (105, .class_ 976), (0, u "java/util/Arrays$ArrayItr")] 52

def k19m0 : Method := { name := "<init>", desc := "()V", sig := { parameters := [], returnType := none }, accessFlags := 2, code := none }
def k19c1 : Code := { maxStack := 6, maxLocals := 3, code := jdk_65_method_121_code, exceptionTable := #[], attributes := #[] }
def k19m1 : Method := { name := "copyOf", desc := "([BI)[B", sig := { parameters := [(.array .byte), .int], returnType := some (.array .byte) }, accessFlags := 9, code := some k19c1 }
def k19c2 : Code := { maxStack := 4, maxLocals := 2, code := jdk_65_method_131_code, exceptionTable := #[], attributes := #[] }
def k19m2 : Method := { name := "checkLength", desc := "(II)V", sig := { parameters := [.int, .int], returnType := none }, accessFlags := 10, code := some k19c2 }
def k19c3 : Code := { maxStack := 3, maxLocals := 3, code := jdk_65_method_132_code, exceptionTable := #[], attributes := #[] }
def k19m3 : Method := { name := "copyOfRange", desc := "([BII)[B", sig := { parameters := [(.array .byte), .int, .int], returnType := some (.array .byte) }, accessFlags := 9, code := some k19c3 }
def k19c4 : Code := { maxStack := 6, maxLocals := 5, code := jdk_65_method_133_code, exceptionTable := #[], attributes := #[] }
def k19m4 : Method := { name := "copyOfRangeByte", desc := "([BII)[B", sig := { parameters := [(.array .byte), .int, .int], returnType := some (.array .byte) }, accessFlags := 10, code := some k19c4 }
/-- java/util/Arrays -/
def k19 : Class := { plain "java/util/Arrays" (some 0) with
  accessFlags := 49
  interfaces := #[]
  cf := some (fileOf pool19 14 #[.nestMembers #[975, 375, 113, 74]] #[{ accessFlags := 2, nameIndex := 5, descriptorIndex := 6, attributes := #[] }, { accessFlags := 9, nameIndex := 302, descriptorIndex := 869, attributes := #[] }, { accessFlags := 10, nameIndex := 345, descriptorIndex := 346, attributes := #[] }, { accessFlags := 9, nameIndex := 139, descriptorIndex := 342, attributes := #[] }, { accessFlags := 10, nameIndex := 341, descriptorIndex := 342, attributes := #[] }] 49 2 #[] #[{ accessFlags := 26, nameIndex := 715, descriptorIndex := 716, attributes := #[] }, { accessFlags := 26, nameIndex := 719, descriptorIndex := 716, attributes := #[] }, { accessFlags := 4120, nameIndex := 445, descriptorIndex := 117, attributes := #[] }])
  fields := #[{ name := "MIN_ARRAY_SORT_GRAN", type := .int, accessFlags := 26, slot := 0, constantValue := 0 }, { name := "INSERTIONSORT_THRESHOLD", type := .int, accessFlags := 26, slot := 1, constantValue := 0 }, { name := "$assertionsDisabled", type := .boolean, accessFlags := 4120, slot := 2, constantValue := 0 }]
  methods := #[k19m0, k19m1, k19m2, k19m3, k19m4]
  instanceTypes := #[]
  staticTypes := #[.int, .int, .boolean]
  resolved := Array.replicate 1029 none
  statics := none }

def pool20 : Array CpInfo := pool [(4, .class_ 6), (1, u "java/lang/Object"), (0, u "<init>"), (0, u "()V"), (5, .class_ 16), (1, u "java/lang/StringLatin1"), (0, u "inflate"), (2, .class_ 22), (1, u "java/lang/StringUTF16"), (3, .nameAndType 17 27), (0, u "([BI[BII)V"), (93, u "$assertionsDisabled"), (0, u "Z"), (98, .class_ 223), (1, u "java/lang/StringLatin1$LinesSpliterator"), (16, .methodref 20 26), (40, u "equals"), (0, u "([B[B)Z"), (107, .class_ 391), (0, u "java/lang/StringLatin1$CharsSpliterator")] 3

def k20m0 : Method := { name := "<init>", desc := "()V", sig := { parameters := [], returnType := none }, accessFlags := 0, code := none }
def k20c1 : Code := { maxStack := 3, maxLocals := 3, code := jdk_43_method_13_code, exceptionTable := #[], attributes := #[] }
def k20m1 : Method := { name := "equals", desc := "([B[B)Z", sig := { parameters := [(.array .byte), (.array .byte)], returnType := some .boolean }, accessFlags := 9, code := some k20c1 }
def k20c2 : Code := { maxStack := 5, maxLocals := 5, code := jdk_43_method_50_code, exceptionTable := #[], attributes := #[] }
def k20m2 : Method := { name := "inflate", desc := "([BI[BII)V", sig := { parameters := [(.array .byte), .int, (.array .byte), .int, .int], returnType := none }, accessFlags := 9, code := some k20c2 }
/-- java/lang/StringLatin1 -/
def k20 : Class := { plain "java/lang/StringLatin1" (some 0) with
  accessFlags := 48
  interfaces := #[]
  cf := some (fileOf pool20 14 #[.nestMembers #[390, 221]] #[{ accessFlags := 0, nameIndex := 7, descriptorIndex := 8, attributes := #[] }, { accessFlags := 9, nameIndex := 281, descriptorIndex := 282, attributes := #[] }, { accessFlags := 9, nameIndex := 17, descriptorIndex := 27, attributes := #[] }] 48 4 #[] #[{ accessFlags := 4120, nameIndex := 121, descriptorIndex := 122, attributes := #[] }])
  fields := #[{ name := "$assertionsDisabled", type := .boolean, accessFlags := 4120, slot := 0, constantValue := 0 }]
  methods := #[k20m0, k20m1, k20m2]
  instanceTypes := #[]
  staticTypes := #[.boolean]
  resolved := Array.replicate 395 none
  statics := none }

def pool21 : Array CpInfo := pool [(2, .class_ 4), (1, u "java/lang/Object"), (0, u "<init>"), (0, u "()V"), (17, .class_ 26), (1, u "jdk/internal/util/Preconditions"), (22, u "checkFromIndexSize"), (5, .class_ 56), (0, u "jdk/internal/util/Preconditions$4"), (57, .class_ 115), (0, u "jdk/internal/util/Preconditions$1"), (7, u "SIOOBE_FORMATTER"), (0, u "Ljava/util/function/BiFunction;"), (0, .class_ 126), (0, u "jdk/internal/util/Preconditions$2"), (3, u "AIOOBE_FORMATTER"), (0, .class_ 132), (0, u "jdk/internal/util/Preconditions$3"), (3, u "IOOBE_FORMATTER"), (46, u "(IIILjava/util/function/BiFunction;)I")] 10

def k21m0 : Method := { name := "<init>", desc := "()V", sig := { parameters := [], returnType := none }, accessFlags := 1, code := none }
def k21c1 : Code := { maxStack := 4, maxLocals := 4, code := jdk_41_method_13_code, exceptionTable := #[], attributes := #[] }
def k21m1 : Method := { name := "checkFromIndexSize", desc := "(IIILjava/util/function/BiFunction;)I", sig := { parameters := [.int, .int, .int, (.object "java/util/function/BiFunction")], returnType := some .int }, accessFlags := 9, code := some k21c1 }
/-- jdk/internal/util/Preconditions -/
def k21 : Class := { plain "jdk/internal/util/Preconditions" (some 0) with
  accessFlags := 33
  interfaces := #[]
  cf := some (fileOf pool21 24 #[.nestMembers #[55, 131, 125, 114]] #[{ accessFlags := 1, nameIndex := 5, descriptorIndex := 6, attributes := #[] }, { accessFlags := 9, nameIndex := 49, descriptorIndex := 183, attributes := #[] }] 33 2 #[] #[{ accessFlags := 25, nameIndex := 123, descriptorIndex := 124, attributes := #[] }, { accessFlags := 25, nameIndex := 130, descriptorIndex := 124, attributes := #[] }, { accessFlags := 25, nameIndex := 136, descriptorIndex := 124, attributes := #[] }])
  fields := #[{ name := "SIOOBE_FORMATTER", type := (.object "java/util/function/BiFunction"), accessFlags := 25, slot := 0, constantValue := 0 }, { name := "AIOOBE_FORMATTER", type := (.object "java/util/function/BiFunction"), accessFlags := 25, slot := 1, constantValue := 0 }, { name := "IOOBE_FORMATTER", type := (.object "java/util/function/BiFunction"), accessFlags := 25, slot := 2, constantValue := 0 }]
  methods := #[k21m0, k21m1]
  instanceTypes := #[]
  staticTypes := #[(.object "java/util/function/BiFunction"), (.object "java/util/function/BiFunction"), (.object "java/util/function/BiFunction")]
  resolved := Array.replicate 194 none
  statics := some 3 }

def pool22 : Array CpInfo := pool [(2, .class_ 4), (1, u "java/lang/Object"), (0, u "<init>"), (0, u "()V"), (12, .class_ 20), (0, u "java/util/Collections"), (63, u "r"), (0, u "Ljava/util/Random;"), (80, .class_ 167), (0, u "java/util/Collections$UnmodifiableCollection"), (6, .class_ 175), (0, u "java/util/Collections$UnmodifiableSequencedCollection"), (6, .class_ 183), (0, u "java/util/Collections$UnmodifiableSet"), (6, .class_ 191), (0, u "java/util/Collections$UnmodifiableSequencedSet"), (6, .class_ 199), (0, u "java/util/Collections$UnmodifiableSortedSet"), (6, .class_ 207), (0, u "java/util/Collections$UnmodifiableNavigableSet"), (4, .class_ 213), (0, u "java/util/Collections$UnmodifiableList"), (1, .class_ 216), (0, u "java/util/Collections$UnmodifiableRandomAccessList"), (6, .class_ 224), (0, u "java/util/Collections$UnmodifiableMap"), (6, .class_ 232), (0, u "java/util/Collections$UnmodifiableSequencedMap"), (4, .class_ 238), (0, u "java/util/Collections$UnmodifiableSortedMap"), (6, .class_ 246), (0, u "java/util/Collections$UnmodifiableNavigableMap"), (3, .class_ 251), (0, u "java/util/Collections$SynchronizedCollection"), (4, .class_ 257), (0, u "java/util/Collections$SynchronizedSet"), (4, .class_ 263), (0, u "java/util/Collections$SynchronizedSortedSet"), (1, .class_ 266), (0, u "java/util/Collections$SynchronizedNavigableSet"), (1, .class_ 269), (0, u "java/util/Collections$SynchronizedRandomAccessList"), (1, .class_ 272), (0, u "java/util/Collections$SynchronizedList"), (5, .class_ 279), (0, u "java/util/Collections$SynchronizedMap"), (1, .class_ 282), (0, u "java/util/Collections$SynchronizedSortedMap"), (1, .class_ 285), (0, u "java/util/Collections$SynchronizedNavigableMap"), (1, .class_ 288), (0, u "java/util/Collections$CheckedCollection"), (11, .class_ 301), (0, u "java/util/Collections$CheckedQueue"), (3, .class_ 306), (0, u "java/util/Collections$CheckedSet"), (3, .class_ 311), (0, u "java/util/Collections$CheckedSortedSet"), (3, .class_ 316), (0, u "java/util/Collections$CheckedNavigableSet"), (3, .class_ 321), (0, u "java/util/Collections$CheckedRandomAccessList"), (3, .class_ 326), (0, u "java/util/Collections$CheckedList"), (1, .class_ 329), (0, u "java/util/Collections$CheckedMap"), (3, .class_ 334), (0, u "java/util/Collections$CheckedSortedMap"), (3, .class_ 339), (0, u "java/util/Collections$CheckedNavigableMap"), (4, .class_ 346), (1, u "java/util/Collections$EmptyIterator"), (3, .class_ 352), (1, u "java/util/Collections$EmptyListIterator"), (2, .class_ 357), (1, u "java/util/Collections$EmptyEnumeration"), (4, u "EMPTY_SET"), (0, u "Ljava/util/Set;"), (6, u "EMPTY_LIST"), (0, u "Ljava/util/List;"), (2, u "EMPTY_MAP"), (0, u "Ljava/util/Map;"), (4, .class_ 381), (0, u "java/util/Collections$SingletonSet"), (2, .class_ 385), (0, u "java/util/Collections$1"), (1, .class_ 388), (0, u "java/util/Collections$2"), (1, .class_ 391), (0, u "java/util/Collections$SingletonList"), (1, .class_ 394), (0, u "java/util/Collections$SingletonMap"), (22, .class_ 418), (0, u "java/util/Collections$CopiesList"), (4, .class_ 425), (1, u "java/util/Collections$ReverseComparator"), (8, .class_ 435), (0, u "java/util/Collections$ReverseComparator2"), (6, .class_ 443), (0, u "java/util/Collections$3"), (25, .class_ 470), (0, u "java/util/Collections$SetFromMap"), (2, .class_ 474), (0, u "java/util/Collections$SequencedSetFromMap"), (3, .class_ 479), (0, u "java/util/Collections$AsLIFOQueue"), (11, .class_ 492), (0, u "java/util/Collections$EmptySet"), (1, .class_ 495), (0, u "java/util/Collections$EmptyList"), (1, .class_ 498), (0, u "java/util/Collections$EmptyMap"), (1, u "BINARYSEARCH_THRESHOLD"), (0, u "I"), (2, u "REVERSE_THRESHOLD"), (1, u "SHUFFLE_THRESHOLD"), (1, u "FILL_THRESHOLD"), (1, u "ROTATE_THRESHOLD"), (1, u "COPY_THRESHOLD"), (1, u "REPLACEALL_THRESHOLD"), (1, u "INDEXOFSUBLIST_THRESHOLD"), (333, .class_ 851), (0, u "java/util/Collections$CheckedMap$CheckedEntrySet"), (0, .class_ 853), (0, u "java/util/Collections$CheckedMap$CheckedEntrySet$CheckedEntry"), (0, .class_ 855), (0, u "java/util/Collections$CheckedMap$CheckedEntrySet$1"), (0, .class_ 857), (0, u "java/util/Collections$CheckedList$1"), (0, .class_ 859), (0, u "java/util/Collections$CheckedCollection$1"), (0, .class_ 861), (0, u "java/util/Collections$UnmodifiableNavigableMap$EmptyNavigableMap"), (0, .class_ 863), (0, u "java/util/Collections$UnmodifiableMap$UnmodifiableEntrySet"), (0, .class_ 865), (0, u "java/util/Collections$UnmodifiableMap$UnmodifiableEntrySet$UnmodifiableEntry"), (0, .class_ 867), (0, u "java/util/Collections$UnmodifiableMap$UnmodifiableEntrySet$UnmodifiableEntrySetSpliterator"), (0, .class_ 869), (0, u "java/util/Collections$UnmodifiableMap$UnmodifiableEntrySet$1"), (0, .class_ 871), (0, u "java/util/Collections$UnmodifiableList$1"), (0, .class_ 873), (0, u "java/util/Collections$UnmodifiableNavigableSet$EmptyNavigableSet"), (0, .class_ 875), (0, u "java/util/Collections$UnmodifiableCollection$1")] 57

def k22m0 : Method := { name := "<init>", desc := "()V", sig := { parameters := [], returnType := none }, accessFlags := 2, code := none }
/-- java/util/Collections -/
def k22 : Class := { plain "java/util/Collections" (some 0) with
  accessFlags := 33
  interfaces := #[]
  cf := some (fileOf pool22 19 #[.nestMembers #[478, 473, 469, 434, 423, 417, 393, 390, 380, 497, 494, 491, 355, 350, 344, 338, 333, 328, 850, 852, 854, 320, 325, 856, 315, 310, 305, 300, 287, 858, 284, 281, 278, 268, 271, 265, 262, 256, 250, 245, 860, 237, 231, 223, 862, 864, 866, 868, 215, 212, 870, 206, 872, 198, 190, 182, 174, 166, 874, 442, 387, 384]] #[{ accessFlags := 2, nameIndex := 5, descriptorIndex := 6, attributes := #[] }] 33 2 #[] #[{ accessFlags := 26, nameIndex := 500, descriptorIndex := 501, attributes := #[] }, { accessFlags := 26, nameIndex := 504, descriptorIndex := 501, attributes := #[] }, { accessFlags := 26, nameIndex := 506, descriptorIndex := 501, attributes := #[] }, { accessFlags := 26, nameIndex := 508, descriptorIndex := 501, attributes := #[] }, { accessFlags := 26, nameIndex := 510, descriptorIndex := 501, attributes := #[] }, { accessFlags := 26, nameIndex := 512, descriptorIndex := 501, attributes := #[] }, { accessFlags := 26, nameIndex := 514, descriptorIndex := 501, attributes := #[] }, { accessFlags := 26, nameIndex := 516, descriptorIndex := 501, attributes := #[] }, { accessFlags := 10, nameIndex := 84, descriptorIndex := 85, attributes := #[] }, { accessFlags := 25, nameIndex := 362, descriptorIndex := 363, attributes := #[] }, { accessFlags := 25, nameIndex := 370, descriptorIndex := 371, attributes := #[] }, { accessFlags := 25, nameIndex := 374, descriptorIndex := 375, attributes := #[] }])
  fields := #[{ name := "BINARYSEARCH_THRESHOLD", type := .int, accessFlags := 26, slot := 0, constantValue := 0 }, { name := "REVERSE_THRESHOLD", type := .int, accessFlags := 26, slot := 1, constantValue := 0 }, { name := "SHUFFLE_THRESHOLD", type := .int, accessFlags := 26, slot := 2, constantValue := 0 }, { name := "FILL_THRESHOLD", type := .int, accessFlags := 26, slot := 3, constantValue := 0 }, { name := "ROTATE_THRESHOLD", type := .int, accessFlags := 26, slot := 4, constantValue := 0 }, { name := "COPY_THRESHOLD", type := .int, accessFlags := 26, slot := 5, constantValue := 0 }, { name := "REPLACEALL_THRESHOLD", type := .int, accessFlags := 26, slot := 6, constantValue := 0 }, { name := "INDEXOFSUBLIST_THRESHOLD", type := .int, accessFlags := 26, slot := 7, constantValue := 0 }, { name := "r", type := (.object "java/util/Random"), accessFlags := 10, slot := 8, constantValue := 0 }, { name := "EMPTY_SET", type := (.object "java/util/Set"), accessFlags := 25, slot := 9, constantValue := 0 }, { name := "EMPTY_LIST", type := (.object "java/util/List"), accessFlags := 25, slot := 10, constantValue := 0 }, { name := "EMPTY_MAP", type := (.object "java/util/Map"), accessFlags := 25, slot := 11, constantValue := 0 }]
  methods := #[k22m0]
  instanceTypes := #[]
  staticTypes := #[.int, .int, .int, .int, .int, .int, .int, .int, (.object "java/util/Random"), (.object "java/util/Set"), (.object "java/util/List"), (.object "java/util/Map")]
  resolved := Array.replicate 933 none
  statics := some 4 }

def pool23 : Array CpInfo := pool [(8, .class_ 10), (1, u "java/lang/Iterable"), (24, .class_ 36), (0, u "java/lang/Object")] 25

/-- java/lang/Iterable -/
def k23 : Class := { plain "java/lang/Iterable" (some 0) with
  accessFlags := 1537
  interfaces := #[]
  cf := some (fileOf pool23 8 #[] #[] 1537 35 #[] #[])
  fields := #[]
  methods := #[]
  instanceTypes := #[]
  staticTypes := #[]
  resolved := Array.replicate 62 none
  statics := none }

def pool24 : Array CpInfo := pool [(10, .class_ 12), (1, u "java/util/Collection"), (47, .class_ 61), (0, u "java/lang/Object"), (0, .class_ 63), (0, u "java/lang/Iterable")] 51

/-- java/util/Collection -/
def k24 : Class := { plain "java/util/Collection" (some 0) with
  accessFlags := 1537
  interfaces := #[23]
  cf := some (fileOf pool24 10 #[] #[] 1537 60 #[62] #[])
  fields := #[]
  methods := #[]
  instanceTypes := #[]
  staticTypes := #[]
  resolved := Array.replicate 115 none
  statics := none }

def pool25 : Array CpInfo := pool [(2, .class_ 4), (1, u "java/lang/Object"), (0, u "<init>"), (0, u "()V"), (1, .class_ 10), (1, u "java/util/AbstractCollection"), (66, .class_ 78), (0, u "java/util/Collection")] 81

def k25m0 : Method := { name := "<init>", desc := "()V", sig := { parameters := [], returnType := none }, accessFlags := 4, code := none }
/-- java/util/AbstractCollection -/
def k25 : Class := { plain "java/util/AbstractCollection" (some 0) with
  accessFlags := 1057
  interfaces := #[24]
  cf := some (fileOf pool25 8 #[] #[{ accessFlags := 4, nameIndex := 5, descriptorIndex := 6, attributes := #[] }] 1057 2 #[77] #[])
  fields := #[]
  methods := #[k25m0]
  instanceTypes := #[]
  staticTypes := #[]
  resolved := Array.replicate 160 none
  statics := none }

def pool26 : Array CpInfo := pool [(8, .class_ 10), (1, u "java/util/SequencedCollection"), (15, .class_ 27), (0, u "java/lang/Object"), (0, .class_ 29), (0, u "java/util/Collection")] 27

/-- java/util/SequencedCollection -/
def k26 : Class := { plain "java/util/SequencedCollection" (some 0) with
  accessFlags := 1537
  interfaces := #[24]
  cf := some (fileOf pool26 8 #[] #[] 1537 26 #[28] #[])
  fields := #[]
  methods := #[]
  instanceTypes := #[]
  staticTypes := #[]
  resolved := Array.replicate 57 none
  statics := none }

def pool27 : Array CpInfo := pool [(8, .class_ 10), (1, u "java/util/List"), (92, .class_ 104), (0, u "java/lang/Object"), (15, .class_ 121), (0, u "java/util/SequencedCollection")] 129

/-- java/util/List -/
def k27 : Class := { plain "java/util/List" (some 0) with
  accessFlags := 1537
  interfaces := #[26]
  cf := some (fileOf pool27 8 #[] #[] 1537 103 #[120] #[])
  fields := #[]
  methods := #[]
  instanceTypes := #[]
  staticTypes := #[]
  resolved := Array.replicate 251 none
  statics := none }

def pool28 : Array CpInfo := pool [(2, .class_ 4), (1, u "java/util/AbstractCollection"), (0, u "<init>"), (0, u "()V"), (1, .class_ 10), (1, u "java/util/AbstractList"), (0, u "modCount"), (0, u "I"), (64, .class_ 78), (0, u "java/util/AbstractList$Itr"), (3, .class_ 83), (0, u "java/util/AbstractList$ListItr"), (9, .class_ 94), (0, u "java/util/AbstractList$RandomAccessSubList"), (3, .class_ 99), (0, u "java/util/AbstractList$SubList"), (33, .class_ 134), (0, u "java/util/List"), (73, .class_ 209), (0, u "java/util/AbstractList$SubList$1"), (0, .class_ 211), (0, u "java/util/AbstractList$RandomAccessSpliterator")] 6

def k28m0 : Method := { name := "<init>", desc := "()V", sig := { parameters := [], returnType := none }, accessFlags := 4, code := none }
/-- java/util/AbstractList -/
def k28 : Class := { plain "java/util/AbstractList" (some 25) with
  accessFlags := 1057
  interfaces := #[27]
  cf := some (fileOf pool28 8 #[.nestMembers #[93, 98, 208, 210, 82, 77]] #[{ accessFlags := 4, nameIndex := 5, descriptorIndex := 6, attributes := #[] }] 1057 2 #[133] #[{ accessFlags := 132, nameIndex := 11, descriptorIndex := 12, attributes := #[] }])
  fields := #[{ name := "modCount", type := .int, accessFlags := 132, slot := 0, constantValue := 0 }]
  methods := #[k28m0]
  instanceTypes := #[.int]
  staticTypes := #[]
  resolved := Array.replicate 218 none
  statics := none }

def pool29 : Array CpInfo := pool [(1, .class_ 2), (0, u "java/util/RandomAccess"), (0, .class_ 4), (0, u "java/lang/Object")] 2

/-- java/util/RandomAccess -/
def k29 : Class := { plain "java/util/RandomAccess" (some 0) with
  accessFlags := 1537
  interfaces := #[]
  cf := some (fileOf pool29 1 #[] #[] 1537 3 #[] #[])
  fields := #[]
  methods := #[]
  instanceTypes := #[]
  staticTypes := #[]
  resolved := Array.replicate 7 none
  statics := none }

def pool30 : Array CpInfo := pool [(2, .class_ 4), (1, u "java/util/AbstractList"), (0, u "<init>"), (0, u "()V"), (1, .class_ 10), (1, u "java/util/Collections"), (54, .class_ 66), (0, u "java/util/Collections$EmptyList"), (0, .class_ 68), (0, u "java/util/RandomAccess"), (0, .class_ 70), (0, u "java/io/Serializable"), (0, u "serialVersionUID"), (0, u "J")] 77

def k30m0 : Method := { name := "<init>", desc := "()V", sig := { parameters := [], returnType := none }, accessFlags := 2, code := none }
/-- java/util/Collections$EmptyList -/
def k30 : Class := { plain "java/util/Collections$EmptyList" (some 28) with
  accessFlags := 32
  interfaces := #[29, 2]
  cf := some (fileOf pool30 65 #[.nestHost 8] #[{ accessFlags := 2, nameIndex := 5, descriptorIndex := 6, attributes := #[] }] 32 2 #[67, 69] #[{ accessFlags := 26, nameIndex := 71, descriptorIndex := 72, attributes := #[] }])
  fields := #[{ name := "serialVersionUID", type := .long, accessFlags := 26, slot := 0, constantValue := 0 }]
  methods := #[k30m0]
  instanceTypes := #[.int]
  staticTypes := #[.long]
  resolved := Array.replicate 150 none
  statics := none }

def pool31 : Array CpInfo := pool [(2, .class_ 4), (1, u "java/lang/StackTraceElement"), (0, u "<init>"), (2, .class_ 10), (1, u "java/lang/Object"), (0, u "()V"), (2, u "format"), (0, u "B"), (2, u "classLoaderName"), (0, u "Ljava/lang/String;"), (2, u "moduleName"), (2, u "moduleVersion"), (12, u "declaringClass"), (4, u "methodName"), (2, u "fileName"), (2, u "lineNumber"), (0, u "I"), (65, u "declaringClassObject"), (0, u "Ljava/lang/Class;"), (33, .class_ 153), (1, u "java/lang/StackTraceElement$HashedModules"), (17, .class_ 172), (0, u "java/io/Serializable"), (0, u "NATIVE_METHOD"), (1, u "UNKNOWN_SOURCE"), (2, u "BUILTIN_CLASS_LOADER"), (1, u "JDK_NON_UPGRADEABLE_MODULE"), (1, u "serialVersionUID"), (0, u "J")] 51

def k31m0 : Method := { name := "<init>", desc := "()V", sig := { parameters := [], returnType := none }, accessFlags := 2, code := none }
/-- java/lang/StackTraceElement -/
def k31 : Class := { plain "java/lang/StackTraceElement" (some 0) with
  accessFlags := 49
  interfaces := #[2]
  cf := some (fileOf pool31 2 #[.nestMembers #[151]] #[{ accessFlags := 2, nameIndex := 5, descriptorIndex := 11, attributes := #[] }] 49 8 #[171] #[{ accessFlags := 26, nameIndex := 173, descriptorIndex := 19, attributes := #[] }, { accessFlags := 26, nameIndex := 175, descriptorIndex := 19, attributes := #[] }, { accessFlags := 130, nameIndex := 116, descriptorIndex := 117, attributes := #[] }, { accessFlags := 2, nameIndex := 18, descriptorIndex := 19, attributes := #[] }, { accessFlags := 2, nameIndex := 22, descriptorIndex := 19, attributes := #[] }, { accessFlags := 2, nameIndex := 25, descriptorIndex := 19, attributes := #[] }, { accessFlags := 2, nameIndex := 38, descriptorIndex := 19, attributes := #[] }, { accessFlags := 2, nameIndex := 43, descriptorIndex := 19, attributes := #[] }, { accessFlags := 2, nameIndex := 46, descriptorIndex := 19, attributes := #[] }, { accessFlags := 2, nameIndex := 49, descriptorIndex := 50, attributes := #[] }, { accessFlags := 2, nameIndex := 14, descriptorIndex := 15, attributes := #[] }, { accessFlags := 26, nameIndex := 178, descriptorIndex := 15, attributes := #[] }, { accessFlags := 26, nameIndex := 180, descriptorIndex := 15, attributes := #[] }, { accessFlags := 26, nameIndex := 182, descriptorIndex := 183, attributes := #[] }])
  fields := #[{ name := "NATIVE_METHOD", type := (.object "java/lang/String"), accessFlags := 26, slot := 0, constantValue := 0 }, { name := "UNKNOWN_SOURCE", type := (.object "java/lang/String"), accessFlags := 26, slot := 1, constantValue := 0 }, { name := "declaringClassObject", type := (.object "java/lang/Class"), accessFlags := 130, slot := 0, constantValue := 0 }, { name := "classLoaderName", type := (.object "java/lang/String"), accessFlags := 2, slot := 1, constantValue := 0 }, { name := "moduleName", type := (.object "java/lang/String"), accessFlags := 2, slot := 2, constantValue := 0 }, { name := "moduleVersion", type := (.object "java/lang/String"), accessFlags := 2, slot := 3, constantValue := 0 }, { name := "declaringClass", type := (.object "java/lang/String"), accessFlags := 2, slot := 4, constantValue := 0 }, { name := "methodName", type := (.object "java/lang/String"), accessFlags := 2, slot := 5, constantValue := 0 }, { name := "fileName", type := (.object "java/lang/String"), accessFlags := 2, slot := 6, constantValue := 0 }, { name := "lineNumber", type := .int, accessFlags := 2, slot := 7, constantValue := 0 }, { name := "format", type := .byte, accessFlags := 2, slot := 8, constantValue := 0 }, { name := "BUILTIN_CLASS_LOADER", type := .byte, accessFlags := 26, slot := 2, constantValue := 0 }, { name := "JDK_NON_UPGRADEABLE_MODULE", type := .byte, accessFlags := 26, slot := 3, constantValue := 0 }, { name := "serialVersionUID", type := .long, accessFlags := 26, slot := 4, constantValue := 0 }]
  methods := #[k31m0]
  instanceTypes := #[(.object "java/lang/Class"), (.object "java/lang/String"), (.object "java/lang/String"), (.object "java/lang/String"), (.object "java/lang/String"), (.object "java/lang/String"), (.object "java/lang/String"), .int, .byte]
  staticTypes := #[(.object "java/lang/String"), (.object "java/lang/String"), .byte, .byte, .long]
  resolved := Array.replicate 235 none
  statics := none }

def pool32 : Array CpInfo := pool [(1, u "java/lang/Cloneable"), (0, .class_ 1), (0, u "java/lang/Object"), (0, .class_ 3)] 3

/-- java/lang/Cloneable -/
def k32 : Class := { plain "java/lang/Cloneable" (some 0) with
  accessFlags := 1537
  interfaces := #[]
  cf := some (fileOf pool32 2 #[] #[] 1537 4 #[] #[])
  fields := #[]
  methods := #[]
  instanceTypes := #[]
  staticTypes := #[]
  resolved := Array.replicate 8 none
  statics := none }

/-- the primitive byte -/
def k33 : Class := { plain "byte" none with kind := .primitive 'B', accessFlags := 0x411 }
/-- [B -/
def k34 : Class := { plain "[B" (some 0) with kind := .array 33 .byte, interfaces := #[32, 2], accessFlags := 1041 }

/-- the primitive char -/
def k35 : Class := { plain "char" none with kind := .primitive 'C', accessFlags := 0x411 }
/-- [C -/
def k36 : Class := { plain "[C" (some 0) with kind := .array 35 .char, interfaces := #[32, 2], accessFlags := 1041 }

/-- the primitive int -/
def k37 : Class := { plain "int" none with kind := .primitive 'I', accessFlags := 0x411 }
/-- [I -/
def k38 : Class := { plain "[I" (some 0) with kind := .array 37 .int, interfaces := #[32, 2], accessFlags := 1041 }

/-- [Ljava/lang/Object; -/
def k39 : Class := { plain "[Ljava/lang/Object;" (some 0) with kind := .array 0 (.object "java/lang/Object"), interfaces := #[32, 2], accessFlags := 1041 }

/-- [Ljava/lang/StackTraceElement; -/
def k40 : Class := { plain "[Ljava/lang/StackTraceElement;" (some 0) with kind := .array 31 (.object "java/lang/StackTraceElement"), interfaces := #[32, 2], accessFlags := 1041 }

/-- [Ljava/lang/Throwable; -/
def k41 : Class := { plain "[Ljava/lang/Throwable;" (some 0) with kind := .array 9 (.object "java/lang/Throwable"), interfaces := #[32, 2], accessFlags := 1041 }

def heap : Heap := #[{ cls := 7, slots := #[.long 0, .int 1, .null, .int 0, .null, .int 0, .int 0], vm := .statics 7 },
  { cls := 8, slots := #[.int 0, .int 8, .int 0, .int 1], vm := .statics 8 },
  { cls := 9, slots := #[.long 0, .ref 5, .ref 6, .null, .null, .null, .null, .ref 7, .int 1], vm := .statics 9 },
  { cls := 21, slots := #[.null, .null, .null], vm := .statics 21 },
  { cls := 22, slots := #[.int 0, .int 0, .int 0, .int 0, .int 0, .int 0, .int 0, .int 0, .null, .null, .ref 6, .null], vm := .statics 22 },
  { cls := 40, slots := #[], vm := .none },
  { cls := 30, slots := #[.int 0], vm := .none },
  { cls := 41, slots := #[], vm := .none }]
def classes : Array Class := #[k0, k1, k2, k3, k4, k5, k6, k7, k8, k9, k10, k11, k12, k13, k14, k15, k16, k17, k18, k19, k20, k21, k22, k23, k24, k25, k26, k27, k28, k29, k30, k31, k32, k33, k34, k35, k36, k37, k38, k39, k40, k41]
def interned : List (Array UInt16 × Addr) := []
def slotsUsed : Nat := 36
def theMethod : MethodId := ⟨1, 1⟩
def args0 : Array Value := #[.int 66, .int 67]
def aboutOver (below : List Frame) : State where
  vm := { classes := classes, interned := interned.toArray }
  heap := heap
  slotsUsed := slotsUsed
  threads := #[{ frames := .invoking theMethod args0 :: below }]
def below0 : List Frame := [.native { method := ⟨0, 0⟩, args := #[] }]
def about1 : State := aboutOver below0
def p0 : Program := .bare "" "" ""
def e0 : Env := launch0.env 0 0 0
theorem w_frames : about1.frames = Frame.invoking theMethod args0 :: below0 := rfl
set_option maxRecDepth 65536 in
theorem w_args : argsFit about1.vm theMethod args0 = true := by decide +kernel
set_option maxRecDepth 65536 in
theorem w_heap : heapFits about1 = true := by decide +kernel
set_option maxRecDepth 65536 in
theorem w_runnable : about1.curStatus? = some .runnable := by decide +kernel
set_option maxRecDepth 65536 in
theorem w_alone : about1.alone = true := by decide +kernel
set_option maxRecDepth 65536 in
theorem w_named : about1.methodNamed? x = some theMethod := by decide +kernel
set_option maxRecDepth 65536 in
theorem w_hears : about1.hears theMethod below0 = true := by decide +kernel
set_option maxRecDepth 65536 in
theorem w_ripe : about1.ripe theMethod args0 below0 = true := by decide +kernel
theorem w_running : about1.status = .running := rfl
set_option maxRecDepth 65536 in
theorem w_room : about1.hasRoom e0.platform room_1 = true :=
  launch0.hasRoom_least _ room_1 (by decide +kernel) (by decide +kernel) (by decide +kernel) (by decide +kernel) (by decide +kernel) (by decide +kernel)
theorem allAtoms_all (ts : List Jvm.Cond) (a : Array Jvm.Value) (st : Jvm.State) : (allAtoms ts).before a st = ts.all (fun c => c.before a st) := by
  induction ts with
  | nil => rfl
  | cons c t ih =>
    show (Jvm.Cond.and c (allAtoms t)).before a st = _
    rw [Jvm.Cond.before_and, ih, List.all_cons]
def words1 : List Jvm.Cond := Jvm.Cond.code x code maxLocals ret :: tables_1
/-- a 'code' word, met by the world's own term for the bytes: nothing is compared byte by byte -/
theorem code_word {y : MethodName} {bytes : ByteArray} {mx : Nat} {rt : Option FieldType} {a : Array Value} {s : State} {m : MethodId} {meth : Method} {c : Code} (h1 : s.methodNamed? y = some m) (h2 : s.vm.method? m = some meth) (h3 : meth.code = some c) (h4 : c.code = bytes)
    (h5 : (c.maxLocals == mx && c.exceptionTable.isEmpty && decide (c.maxStack ≤ mostOperands) && decide (meth.sig.returnType = rt) && !meth.locks && decide (parseMethodDescriptor y.desc = some meth.sig)) = true) : (Jvm.Cond.code y bytes mx rt).before a s = true := by
  simp only [Bool.and_eq_true, beq_iff_eq, Bool.not_eq_true', decide_eq_true_eq] at h5
  obtain ⟨⟨⟨⟨⟨g1, g2⟩, g3⟩, g4⟩, g5⟩, g6⟩ := h5
  simp [Cond.before, Cond.holds, Cond.value, h1, h2, h3, h4, g1, g2, g3, g4, g5, g6]
def isCode : Jvm.Cond → Bool
  | .code _ _ _ _ => true
  | _ => false
theorem all_split {L : List Jvm.Cond} {P : Jvm.Cond → Bool} (h1 : L.all (fun c => isCode c || P c) = true) (h2 : ∀ c ∈ L.filter isCode, P c = true) : L.all P = true := by
  refine List.all_eq_true.mpr fun c hc => ?_
  have h := List.all_eq_true.mp h1 c hc
  rcases Bool.eq_false_or_eq_true (isCode c) with hi | hi
  · exact h2 c (List.mem_filter.mpr ⟨hc, hi⟩)
  · simpa [hi] using h
set_option maxRecDepth 65536 in
theorem w_c0 : (Jvm.Cond.code x code maxLocals ret).before args0 about1 = true := code_word (m := ⟨1, 1⟩) (meth := k1m1) (c := k1c1) (by decide +kernel) rfl rfl rfl (by decide +kernel)
set_option maxRecDepth 65536 in
theorem w_c1 : (Jvm.Cond.code ({ cls := "java/lang/String", name := "<init>", desc := "([C)V" } : Jvm.MethodName) jdk_42_method_3_code (2 : Nat) (Option.none : Option Jvm.ClassFile.FieldType)).before args0 about1 = true := code_word (m := ⟨7, 1⟩) (meth := k7m1) (c := k7c1) (by decide +kernel) rfl rfl rfl (by decide +kernel)
set_option maxRecDepth 65536 in
theorem w_c2 : (Jvm.Cond.code ({ cls := "java/lang/String", name := "<init>", desc := "([CIILjava/lang/Void;)V" } : Jvm.MethodName) jdk_42_method_149_code (6 : Nat) (Option.none : Option Jvm.ClassFile.FieldType)).before args0 about1 = true := code_word (m := ⟨7, 6⟩) (meth := k7m6) (c := k7c6) (by decide +kernel) rfl rfl rfl (by decide +kernel)
set_option maxRecDepth 65536 in
theorem w_c3 : (Jvm.Cond.code ({ cls := "java/lang/Object", name := "<init>", desc := "()V" } : Jvm.MethodName) object_method_1_code (1 : Nat) (Option.none : Option Jvm.ClassFile.FieldType)).before args0 about1 = true := code_word (m := ⟨0, 0⟩) (meth := k0m0) (c := k0c0) (by decide +kernel) rfl rfl rfl (by decide +kernel)
set_option maxRecDepth 65536 in
theorem w_c4 : (Jvm.Cond.code ({ cls := "java/lang/StringUTF16", name := "compress", desc := "([CII)[B" } : Jvm.MethodName) jdk_52_method_16_code (6 : Nat) (Option.some (Jvm.ClassFile.FieldType.array Jvm.ClassFile.FieldType.byte))).before args0 about1 = true := code_word (m := ⟨8, 8⟩) (meth := k8m8) (c := k8c8) (by decide +kernel) rfl rfl rfl (by decide +kernel)
set_option maxRecDepth 65536 in
theorem w_c5 : (Jvm.Cond.code ({ cls := "java/lang/StringUTF16", name := "compress", desc := "([CI[BII)I" } : Jvm.MethodName) jdk_52_method_21_code (7 : Nat) (Option.some Jvm.ClassFile.FieldType.int)).before args0 about1 = true := code_word (m := ⟨8, 9⟩) (meth := k8m9) (c := k8c9) (by decide +kernel) rfl rfl rfl (by decide +kernel)
set_option maxRecDepth 65536 in
theorem w_c6 : (Jvm.Cond.code ({ cls := "java/lang/StringUTF16", name := "coderFromArrayLen", desc := "([BI)B" } : Jvm.MethodName) jdk_52_method_15_code (2 : Nat) (Option.some Jvm.ClassFile.FieldType.byte)).before args0 about1 = true := code_word (m := ⟨8, 7⟩) (meth := k8m7) (c := k8c7) (by decide +kernel) rfl rfl rfl (by decide +kernel)
set_option maxRecDepth 65536 in
theorem w_c7 : (Jvm.Cond.code ({ cls := "com/example/handover/handover/ApiError", name := "operationNotRunning", desc := "(Ljava/lang/String;Ljava/lang/String;)Lcom/example/handover/handover/ApiError;" } : Jvm.MethodName) prog_1_method_11_code (2 : Nat) (Option.some (Jvm.ClassFile.FieldType.object "com/example/handover/handover/ApiError"))).before args0 about1 = true := code_word (m := ⟨12, 1⟩) (meth := k12m1) (c := k12c1) (by decide +kernel) rfl rfl rfl (by decide +kernel)
set_option maxRecDepth 65536 in
theorem w_c8 : (Jvm.Cond.code ({ cls := "java/lang/StringBuilder", name := "<init>", desc := "()V" } : Jvm.MethodName) jdk_67_method_1_code (1 : Nat) (Option.none : Option Jvm.ClassFile.FieldType)).before args0 about1 = true := code_word (m := ⟨15, 0⟩) (meth := k15m0) (c := k15c0) (by decide +kernel) rfl rfl rfl (by decide +kernel)
set_option maxRecDepth 65536 in
theorem w_c9 : (Jvm.Cond.code ({ cls := "java/lang/AbstractStringBuilder", name := "<init>", desc := "(I)V" } : Jvm.MethodName) jdk_68_method_2_code (2 : Nat) (Option.none : Option Jvm.ClassFile.FieldType)).before args0 about1 = true := code_word (m := ⟨14, 1⟩) (meth := k14m1) (c := k14c1) (by decide +kernel) rfl rfl rfl (by decide +kernel)
set_option maxRecDepth 65536 in
theorem w_c10 : (Jvm.Cond.code ({ cls := "java/lang/StringBuilder", name := "append", desc := "(Ljava/lang/String;)Ljava/lang/StringBuilder;" } : Jvm.MethodName) jdk_67_method_7_code (2 : Nat) (Option.some (Jvm.ClassFile.FieldType.object "java/lang/StringBuilder"))).before args0 about1 = true := code_word (m := ⟨15, 1⟩) (meth := k15m1) (c := k15c1) (by decide +kernel) rfl rfl rfl (by decide +kernel)
set_option maxRecDepth 65536 in
theorem w_c11 : (Jvm.Cond.code ({ cls := "java/lang/AbstractStringBuilder", name := "append", desc := "(Ljava/lang/String;)Ljava/lang/AbstractStringBuilder;" } : Jvm.MethodName) jdk_68_method_22_code (3 : Nat) (Option.some (Jvm.ClassFile.FieldType.object "java/lang/AbstractStringBuilder"))).before args0 about1 = true := code_word (m := ⟨14, 6⟩) (meth := k14m6) (c := k14c6) (by decide +kernel) rfl rfl rfl (by decide +kernel)
set_option maxRecDepth 65536 in
theorem w_c12 : (Jvm.Cond.code ({ cls := "java/lang/String", name := "length", desc := "()I" } : Jvm.MethodName) jdk_42_method_54_code (1 : Nat) (Option.some Jvm.ClassFile.FieldType.int)).before args0 about1 = true := code_word (m := ⟨7, 3⟩) (meth := k7m3) (c := k7c3) (by decide +kernel) rfl rfl rfl (by decide +kernel)
set_option maxRecDepth 65536 in
theorem w_c13 : (Jvm.Cond.code ({ cls := "java/lang/String", name := "coder", desc := "()B" } : Jvm.MethodName) jdk_42_method_152_code (1 : Nat) (Option.some Jvm.ClassFile.FieldType.byte)).before args0 about1 = true := code_word (m := ⟨7, 8⟩) (meth := k7m8) (c := k7c8) (by decide +kernel) rfl rfl rfl (by decide +kernel)
set_option maxRecDepth 65536 in
theorem w_c14 : (Jvm.Cond.code ({ cls := "java/lang/AbstractStringBuilder", name := "ensureCapacityInternal", desc := "(I)V" } : Jvm.MethodName) jdk_68_method_9_code (3 : Nat) (Option.none : Option Jvm.ClassFile.FieldType)).before args0 about1 = true := code_word (m := ⟨14, 3⟩) (meth := k14m3) (c := k14c3) (by decide +kernel) rfl rfl rfl (by decide +kernel)
set_option maxRecDepth 65536 in
theorem w_c15 : (Jvm.Cond.code ({ cls := "java/lang/AbstractStringBuilder", name := "putStringAt", desc := "(ILjava/lang/String;)V" } : Jvm.MethodName) jdk_68_method_73_code (3 : Nat) (Option.none : Option Jvm.ClassFile.FieldType)).before args0 about1 = true := code_word (m := ⟨14, 10⟩) (meth := k14m10) (c := k14c10) (by decide +kernel) rfl rfl rfl (by decide +kernel)
set_option maxRecDepth 65536 in
theorem w_c16 : (Jvm.Cond.code ({ cls := "java/lang/AbstractStringBuilder", name := "inflateIfNeededFor", desc := "(Ljava/lang/String;)V" } : Jvm.MethodName) jdk_68_method_71_code (2 : Nat) (Option.none : Option Jvm.ClassFile.FieldType)).before args0 about1 = true := code_word (m := ⟨14, 9⟩) (meth := k14m9) (c := k14c9) (by decide +kernel) rfl rfl rfl (by decide +kernel)
set_option maxRecDepth 65536 in
theorem w_c17 : (Jvm.Cond.code ({ cls := "java/lang/String", name := "getBytes", desc := "([BIB)V" } : Jvm.MethodName) jdk_42_method_147_code (4 : Nat) (Option.none : Option Jvm.ClassFile.FieldType)).before args0 about1 = true := code_word (m := ⟨7, 5⟩) (meth := k7m5) (c := k7c5) (by decide +kernel) rfl rfl rfl (by decide +kernel)
set_option maxRecDepth 65536 in
theorem w_c18 : (Jvm.Cond.code ({ cls := "java/lang/AbstractStringBuilder", name := "newCapacity", desc := "(I)I" } : Jvm.MethodName) jdk_68_method_10_code (6 : Nat) (Option.some Jvm.ClassFile.FieldType.int)).before args0 about1 = true := code_word (m := ⟨14, 4⟩) (meth := k14m4) (c := k14c4) (by decide +kernel) rfl rfl rfl (by decide +kernel)
set_option maxRecDepth 65536 in
theorem w_c19 : (Jvm.Cond.code ({ cls := "jdk/internal/util/ArraysSupport", name := "newLength", desc := "(III)I" } : Jvm.MethodName) jdk_48_method_27_code (4 : Nat) (Option.some Jvm.ClassFile.FieldType.int)).before args0 about1 = true := code_word (m := ⟨17, 1⟩) (meth := k17m1) (c := k17c1) (by decide +kernel) rfl rfl rfl (by decide +kernel)
set_option maxRecDepth 65536 in
theorem w_c20 : (Jvm.Cond.code ({ cls := "java/lang/Math", name := "max", desc := "(II)I" } : Jvm.MethodName) jdk_29_method_65_code (2 : Nat) (Option.some Jvm.ClassFile.FieldType.int)).before args0 about1 = true := code_word (m := ⟨18, 1⟩) (meth := k18m1) (c := k18c1) (by decide +kernel) rfl rfl rfl (by decide +kernel)
set_option maxRecDepth 65536 in
theorem w_c21 : (Jvm.Cond.code ({ cls := "java/util/Arrays", name := "copyOf", desc := "([BI)[B" } : Jvm.MethodName) jdk_65_method_121_code (3 : Nat) (Option.some (Jvm.ClassFile.FieldType.array Jvm.ClassFile.FieldType.byte))).before args0 about1 = true := code_word (m := ⟨19, 1⟩) (meth := k19m1) (c := k19c1) (by decide +kernel) rfl rfl rfl (by decide +kernel)
set_option maxRecDepth 65536 in
theorem w_c22 : (Jvm.Cond.code ({ cls := "java/lang/Math", name := "min", desc := "(II)I" } : Jvm.MethodName) jdk_29_method_69_code (2 : Nat) (Option.some Jvm.ClassFile.FieldType.int)).before args0 about1 = true := code_word (m := ⟨18, 2⟩) (meth := k18m2) (c := k18c2) (by decide +kernel) rfl rfl rfl (by decide +kernel)
set_option maxRecDepth 65536 in
theorem w_c23 : (Jvm.Cond.code ({ cls := "java/lang/StringBuilder", name := "toString", desc := "()Ljava/lang/String;" } : Jvm.MethodName) jdk_67_method_42_code (1 : Nat) (Option.some (Jvm.ClassFile.FieldType.object "java/lang/String"))).before args0 about1 = true := code_word (m := ⟨15, 2⟩) (meth := k15m2) (c := k15c2) (by decide +kernel) rfl rfl rfl (by decide +kernel)
set_option maxRecDepth 65536 in
theorem w_c24 : (Jvm.Cond.code ({ cls := "java/lang/String", name := "<init>", desc := "(Ljava/lang/StringBuilder;)V" } : Jvm.MethodName) jdk_42_method_53_code (2 : Nat) (Option.none : Option Jvm.ClassFile.FieldType)).before args0 about1 = true := code_word (m := ⟨7, 2⟩) (meth := k7m2) (c := k7c2) (by decide +kernel) rfl rfl rfl (by decide +kernel)
set_option maxRecDepth 65536 in
theorem w_c25 : (Jvm.Cond.code ({ cls := "java/lang/String", name := "<init>", desc := "(Ljava/lang/AbstractStringBuilder;Ljava/lang/Void;)V" } : Jvm.MethodName) jdk_42_method_150_code (5 : Nat) (Option.none : Option Jvm.ClassFile.FieldType)).before args0 about1 = true := code_word (m := ⟨7, 7⟩) (meth := k7m7) (c := k7c7) (by decide +kernel) rfl rfl rfl (by decide +kernel)
set_option maxRecDepth 65536 in
theorem w_c26 : (Jvm.Cond.code ({ cls := "java/lang/AbstractStringBuilder", name := "getValue", desc := "()[B" } : Jvm.MethodName) jdk_68_method_64_code (1 : Nat) (Option.some (Jvm.ClassFile.FieldType.array Jvm.ClassFile.FieldType.byte))).before args0 about1 = true := code_word (m := ⟨14, 7⟩) (meth := k14m7) (c := k14c7) (by decide +kernel) rfl rfl rfl (by decide +kernel)
set_option maxRecDepth 65536 in
theorem w_c27 : (Jvm.Cond.code ({ cls := "java/lang/StringBuilder", name := "length", desc := "()I" } : Jvm.MethodName) jdk_67_method_93_code (1 : Nat) (Option.some Jvm.ClassFile.FieldType.int)).before args0 about1 = true := code_word (m := ⟨15, 3⟩) (meth := k15m3) (c := k15c3) (by decide +kernel) rfl rfl rfl (by decide +kernel)
set_option maxRecDepth 65536 in
theorem w_c28 : (Jvm.Cond.code ({ cls := "java/lang/AbstractStringBuilder", name := "length", desc := "()I" } : Jvm.MethodName) jdk_68_method_6_code (1 : Nat) (Option.some Jvm.ClassFile.FieldType.int)).before args0 about1 = true := code_word (m := ⟨14, 2⟩) (meth := k14m2) (c := k14c2) (by decide +kernel) rfl rfl rfl (by decide +kernel)
set_option maxRecDepth 65536 in
theorem w_c29 : (Jvm.Cond.code ({ cls := "java/lang/AbstractStringBuilder", name := "isLatin1", desc := "()Z" } : Jvm.MethodName) jdk_68_method_68_code (1 : Nat) (Option.some Jvm.ClassFile.FieldType.boolean)).before args0 about1 = true := code_word (m := ⟨14, 8⟩) (meth := k14m8) (c := k14c8) (by decide +kernel) rfl rfl rfl (by decide +kernel)
set_option maxRecDepth 65536 in
theorem w_c30 : (Jvm.Cond.code ({ cls := "java/util/Arrays", name := "copyOfRange", desc := "([BII)[B" } : Jvm.MethodName) jdk_65_method_132_code (3 : Nat) (Option.some (Jvm.ClassFile.FieldType.array Jvm.ClassFile.FieldType.byte))).before args0 about1 = true := code_word (m := ⟨19, 3⟩) (meth := k19m3) (c := k19c3) (by decide +kernel) rfl rfl rfl (by decide +kernel)
set_option maxRecDepth 65536 in
theorem w_c31 : (Jvm.Cond.code ({ cls := "java/util/Arrays", name := "copyOfRangeByte", desc := "([BII)[B" } : Jvm.MethodName) jdk_65_method_133_code (5 : Nat) (Option.some (Jvm.ClassFile.FieldType.array Jvm.ClassFile.FieldType.byte))).before args0 about1 = true := code_word (m := ⟨19, 4⟩) (meth := k19m4) (c := k19c4) (by decide +kernel) rfl rfl rfl (by decide +kernel)
set_option maxRecDepth 65536 in
theorem w_c32 : (Jvm.Cond.code ({ cls := "java/util/Arrays", name := "checkLength", desc := "(II)V" } : Jvm.MethodName) jdk_65_method_131_code (2 : Nat) (Option.none : Option Jvm.ClassFile.FieldType)).before args0 about1 = true := code_word (m := ⟨19, 2⟩) (meth := k19m2) (c := k19c2) (by decide +kernel) rfl rfl rfl (by decide +kernel)
set_option maxRecDepth 65536 in
theorem w_c33 : (Jvm.Cond.code ({ cls := "com/example/handover/handover/ApiError", name := "<init>", desc := "(ILjava/lang/String;Ljava/lang/String;Ljava/lang/String;)V" } : Jvm.MethodName) prog_1_method_2_code (5 : Nat) (Option.none : Option Jvm.ClassFile.FieldType)).before args0 about1 = true := code_word (m := ⟨12, 0⟩) (meth := k12m0) (c := k12c0) (by decide +kernel) rfl rfl rfl (by decide +kernel)
set_option maxRecDepth 65536 in
theorem w_c34 : (Jvm.Cond.code ({ cls := "java/lang/RuntimeException", name := "<init>", desc := "(Ljava/lang/String;)V" } : Jvm.MethodName) jdk_58_method_2_code (2 : Nat) (Option.none : Option Jvm.ClassFile.FieldType)).before args0 about1 = true := code_word (m := ⟨11, 1⟩) (meth := k11m1) (c := k11c1) (by decide +kernel) rfl rfl rfl (by decide +kernel)
set_option maxRecDepth 65536 in
theorem w_c35 : (Jvm.Cond.code ({ cls := "java/lang/Exception", name := "<init>", desc := "(Ljava/lang/String;)V" } : Jvm.MethodName) jdk_59_method_2_code (2 : Nat) (Option.none : Option Jvm.ClassFile.FieldType)).before args0 about1 = true := code_word (m := ⟨10, 1⟩) (meth := k10m1) (c := k10c1) (by decide +kernel) rfl rfl rfl (by decide +kernel)
set_option maxRecDepth 65536 in
theorem w_c36 : (Jvm.Cond.code ({ cls := "java/lang/Throwable", name := "<init>", desc := "(Ljava/lang/String;)V" } : Jvm.MethodName) jdk_78_method_2_code (2 : Nat) (Option.none : Option Jvm.ClassFile.FieldType)).before args0 about1 = true := code_word (m := ⟨9, 1⟩) (meth := k9m1) (c := k9c1) (by decide +kernel) rfl rfl rfl (by decide +kernel)
set_option maxRecDepth 65536 in
theorem w_c37 : (Jvm.Cond.code ({ cls := "java/lang/Throwable", name := "<init>", desc := "()V" } : Jvm.MethodName) jdk_78_method_1_code (1 : Nat) (Option.none : Option Jvm.ClassFile.FieldType)).before args0 about1 = true := code_word (m := ⟨9, 0⟩) (meth := k9m0) (c := k9c0) (by decide +kernel) rfl rfl rfl (by decide +kernel)
set_option maxRecDepth 65536 in
theorem w_c38 : (Jvm.Cond.code ({ cls := "com/example/handover/handover/ApiError", name := "status", desc := "()I" } : Jvm.MethodName) prog_1_method_16_code (1 : Nat) (Option.some Jvm.ClassFile.FieldType.int)).before args0 about1 = true := code_word (m := ⟨12, 2⟩) (meth := k12m2) (c := k12c2) (by decide +kernel) rfl rfl rfl (by decide +kernel)
set_option maxRecDepth 65536 in
theorem w_c39 : (Jvm.Cond.code ({ cls := "com/example/handover/handover/ApiError", name := "type", desc := "()Ljava/lang/String;" } : Jvm.MethodName) prog_1_method_17_code (1 : Nat) (Option.some (Jvm.ClassFile.FieldType.object "java/lang/String"))).before args0 about1 = true := code_word (m := ⟨12, 3⟩) (meth := k12m3) (c := k12c3) (by decide +kernel) rfl rfl rfl (by decide +kernel)
set_option maxRecDepth 65536 in
theorem w_c40 : (Jvm.Cond.code ({ cls := "java/lang/String", name := "equals", desc := "(Ljava/lang/Object;)Z" } : Jvm.MethodName) jdk_42_method_66_code (3 : Nat) (Option.some Jvm.ClassFile.FieldType.boolean)).before args0 about1 = true := code_word (m := ⟨7, 4⟩) (meth := k7m4) (c := k7c4) (by decide +kernel) rfl rfl rfl (by decide +kernel)
set_option maxRecDepth 65536 in
theorem w_c41 : (Jvm.Cond.code ({ cls := "com/example/handover/handover/ApiError", name := "operationId", desc := "()Ljava/lang/String;" } : Jvm.MethodName) prog_1_method_18_code (1 : Nat) (Option.some (Jvm.ClassFile.FieldType.object "java/lang/String"))).before args0 about1 = true := code_word (m := ⟨12, 4⟩) (meth := k12m4) (c := k12c4) (by decide +kernel) rfl rfl rfl (by decide +kernel)
set_option maxRecDepth 65536 in
theorem w_c42 : (Jvm.Cond.code ({ cls := "java/lang/Throwable", name := "getMessage", desc := "()Ljava/lang/String;" } : Jvm.MethodName) jdk_78_method_6_code (1 : Nat) (Option.some (Jvm.ClassFile.FieldType.object "java/lang/String"))).before args0 about1 = true := code_word (m := ⟨9, 2⟩) (meth := k9m2) (c := k9c2) (by decide +kernel) rfl rfl rfl (by decide +kernel)
set_option maxRecDepth 65536 in
theorem w_c43 : (Jvm.Cond.code ({ cls := "java/lang/StringLatin1", name := "equals", desc := "([B[B)Z" } : Jvm.MethodName) jdk_43_method_13_code (3 : Nat) (Option.some Jvm.ClassFile.FieldType.boolean)).before args0 about1 = true := code_word (m := ⟨20, 1⟩) (meth := k20m1) (c := k20c1) (by decide +kernel) rfl rfl rfl (by decide +kernel)
set_option maxRecDepth 65536 in
theorem w_c44 : (Jvm.Cond.code ({ cls := "java/lang/StringUTF16", name := "toBytes", desc := "([CII)[B" } : Jvm.MethodName) jdk_52_method_14_code (5 : Nat) (Option.some (Jvm.ClassFile.FieldType.array Jvm.ClassFile.FieldType.byte))).before args0 about1 = true := code_word (m := ⟨8, 6⟩) (meth := k8m6) (c := k8c6) (by decide +kernel) rfl rfl rfl (by decide +kernel)
set_option maxRecDepth 65536 in
theorem w_c45 : (Jvm.Cond.code ({ cls := "java/lang/StringUTF16", name := "newBytesFor", desc := "(I)[B" } : Jvm.MethodName) jdk_52_method_2_code (1 : Nat) (Option.some (Jvm.ClassFile.FieldType.array Jvm.ClassFile.FieldType.byte))).before args0 about1 = true := code_word (m := ⟨8, 1⟩) (meth := k8m1) (c := k8c1) (by decide +kernel) rfl rfl rfl (by decide +kernel)
set_option maxRecDepth 65536 in
theorem w_c46 : (Jvm.Cond.code ({ cls := "java/lang/StringUTF16", name := "newBytesLength", desc := "(I)I" } : Jvm.MethodName) jdk_52_method_3_code (1 : Nat) (Option.some Jvm.ClassFile.FieldType.int)).before args0 about1 = true := code_word (m := ⟨8, 2⟩) (meth := k8m2) (c := k8c2) (by decide +kernel) rfl rfl rfl (by decide +kernel)
set_option maxRecDepth 65536 in
theorem w_c47 : (Jvm.Cond.code ({ cls := "java/lang/StringUTF16", name := "putChar", desc := "([BII)V" } : Jvm.MethodName) jdk_52_method_4_code (3 : Nat) (Option.none : Option Jvm.ClassFile.FieldType)).before args0 about1 = true := code_word (m := ⟨8, 3⟩) (meth := k8m3) (c := k8c3) (by decide +kernel) rfl rfl rfl (by decide +kernel)
set_option maxRecDepth 65536 in
theorem w_c48 : (Jvm.Cond.code ({ cls := "java/lang/StringUTF16", name := "getChar", desc := "([BI)C" } : Jvm.MethodName) jdk_52_method_5_code (2 : Nat) (Option.some Jvm.ClassFile.FieldType.char)).before args0 about1 = true := code_word (m := ⟨8, 4⟩) (meth := k8m4) (c := k8c4) (by decide +kernel) rfl rfl rfl (by decide +kernel)
set_option maxRecDepth 65536 in
theorem w_c49 : (Jvm.Cond.code ({ cls := "java/lang/AbstractStringBuilder", name := "inflate", desc := "()V" } : Jvm.MethodName) jdk_68_method_11_code (2 : Nat) (Option.none : Option Jvm.ClassFile.FieldType)).before args0 about1 = true := code_word (m := ⟨14, 5⟩) (meth := k14m5) (c := k14c5) (by decide +kernel) rfl rfl rfl (by decide +kernel)
set_option maxRecDepth 65536 in
theorem w_c50 : (Jvm.Cond.code ({ cls := "java/lang/StringLatin1", name := "inflate", desc := "([BI[BII)V" } : Jvm.MethodName) jdk_43_method_50_code (5 : Nat) (Option.none : Option Jvm.ClassFile.FieldType)).before args0 about1 = true := code_word (m := ⟨20, 2⟩) (meth := k20m2) (c := k20c2) (by decide +kernel) rfl rfl rfl (by decide +kernel)
set_option maxRecDepth 65536 in
theorem w_c51 : (Jvm.Cond.code ({ cls := "java/lang/StringUTF16", name := "inflate", desc := "([BI[BII)V" } : Jvm.MethodName) jdk_52_method_86_code (6 : Nat) (Option.none : Option Jvm.ClassFile.FieldType)).before args0 about1 = true := code_word (m := ⟨8, 10⟩) (meth := k8m10) (c := k8c10) (by decide +kernel) rfl rfl rfl (by decide +kernel)
set_option maxRecDepth 65536 in
theorem w_c52 : (Jvm.Cond.code ({ cls := "java/lang/StringUTF16", name := "checkBoundsOffCount", desc := "(II[B)V" } : Jvm.MethodName) jdk_52_method_94_code (3 : Nat) (Option.none : Option Jvm.ClassFile.FieldType)).before args0 about1 = true := code_word (m := ⟨8, 11⟩) (meth := k8m11) (c := k8c11) (by decide +kernel) rfl rfl rfl (by decide +kernel)
set_option maxRecDepth 65536 in
theorem w_c53 : (Jvm.Cond.code ({ cls := "java/lang/StringUTF16", name := "length", desc := "([B)I" } : Jvm.MethodName) jdk_52_method_6_code (1 : Nat) (Option.some Jvm.ClassFile.FieldType.int)).before args0 about1 = true := code_word (m := ⟨8, 5⟩) (meth := k8m5) (c := k8c5) (by decide +kernel) rfl rfl rfl (by decide +kernel)
set_option maxRecDepth 65536 in
theorem w_c54 : (Jvm.Cond.code ({ cls := "java/lang/String", name := "checkBoundsOffCount", desc := "(III)I" } : Jvm.MethodName) jdk_42_method_157_code (3 : Nat) (Option.some Jvm.ClassFile.FieldType.int)).before args0 about1 = true := code_word (m := ⟨7, 9⟩) (meth := k7m9) (c := k7c9) (by decide +kernel) rfl rfl rfl (by decide +kernel)
set_option maxRecDepth 65536 in
theorem w_c55 : (Jvm.Cond.code ({ cls := "jdk/internal/util/Preconditions", name := "checkFromIndexSize", desc := "(IIILjava/util/function/BiFunction;)I" } : Jvm.MethodName) jdk_41_method_13_code (4 : Nat) (Option.some Jvm.ClassFile.FieldType.int)).before args0 about1 = true := code_word (m := ⟨21, 1⟩) (meth := k21m1) (c := k21c1) (by decide +kernel) rfl rfl rfl (by decide +kernel)
def codes1 : List Jvm.Cond := [Jvm.Cond.code x code maxLocals ret, Jvm.Cond.code ({ cls := "java/lang/String", name := "<init>", desc := "([C)V" } : Jvm.MethodName) jdk_42_method_3_code (2 : Nat) (Option.none : Option Jvm.ClassFile.FieldType), Jvm.Cond.code ({ cls := "java/lang/String", name := "<init>", desc := "([CIILjava/lang/Void;)V" } : Jvm.MethodName) jdk_42_method_149_code (6 : Nat) (Option.none : Option Jvm.ClassFile.FieldType), Jvm.Cond.code ({ cls := "java/lang/Object", name := "<init>", desc := "()V" } : Jvm.MethodName) object_method_1_code (1 : Nat) (Option.none : Option Jvm.ClassFile.FieldType), Jvm.Cond.code ({ cls := "java/lang/StringUTF16", name := "compress", desc := "([CII)[B" } : Jvm.MethodName) jdk_52_method_16_code (6 : Nat) (Option.some (Jvm.ClassFile.FieldType.array Jvm.ClassFile.FieldType.byte)), Jvm.Cond.code ({ cls := "java/lang/StringUTF16", name := "compress", desc := "([CI[BII)I" } : Jvm.MethodName) jdk_52_method_21_code (7 : Nat) (Option.some Jvm.ClassFile.FieldType.int), Jvm.Cond.code ({ cls := "java/lang/StringUTF16", name := "coderFromArrayLen", desc := "([BI)B" } : Jvm.MethodName) jdk_52_method_15_code (2 : Nat) (Option.some Jvm.ClassFile.FieldType.byte), Jvm.Cond.code ({ cls := "com/example/handover/handover/ApiError", name := "operationNotRunning", desc := "(Ljava/lang/String;Ljava/lang/String;)Lcom/example/handover/handover/ApiError;" } : Jvm.MethodName) prog_1_method_11_code (2 : Nat) (Option.some (Jvm.ClassFile.FieldType.object "com/example/handover/handover/ApiError")), Jvm.Cond.code ({ cls := "java/lang/StringBuilder", name := "<init>", desc := "()V" } : Jvm.MethodName) jdk_67_method_1_code (1 : Nat) (Option.none : Option Jvm.ClassFile.FieldType), Jvm.Cond.code ({ cls := "java/lang/AbstractStringBuilder", name := "<init>", desc := "(I)V" } : Jvm.MethodName) jdk_68_method_2_code (2 : Nat) (Option.none : Option Jvm.ClassFile.FieldType), Jvm.Cond.code ({ cls := "java/lang/StringBuilder", name := "append", desc := "(Ljava/lang/String;)Ljava/lang/StringBuilder;" } : Jvm.MethodName) jdk_67_method_7_code (2 : Nat) (Option.some (Jvm.ClassFile.FieldType.object "java/lang/StringBuilder")), Jvm.Cond.code ({ cls := "java/lang/AbstractStringBuilder", name := "append", desc := "(Ljava/lang/String;)Ljava/lang/AbstractStringBuilder;" } : Jvm.MethodName) jdk_68_method_22_code (3 : Nat) (Option.some (Jvm.ClassFile.FieldType.object "java/lang/AbstractStringBuilder")), Jvm.Cond.code ({ cls := "java/lang/String", name := "length", desc := "()I" } : Jvm.MethodName) jdk_42_method_54_code (1 : Nat) (Option.some Jvm.ClassFile.FieldType.int), Jvm.Cond.code ({ cls := "java/lang/String", name := "coder", desc := "()B" } : Jvm.MethodName) jdk_42_method_152_code (1 : Nat) (Option.some Jvm.ClassFile.FieldType.byte), Jvm.Cond.code ({ cls := "java/lang/AbstractStringBuilder", name := "ensureCapacityInternal", desc := "(I)V" } : Jvm.MethodName) jdk_68_method_9_code (3 : Nat) (Option.none : Option Jvm.ClassFile.FieldType), Jvm.Cond.code ({ cls := "java/lang/AbstractStringBuilder", name := "putStringAt", desc := "(ILjava/lang/String;)V" } : Jvm.MethodName) jdk_68_method_73_code (3 : Nat) (Option.none : Option Jvm.ClassFile.FieldType), Jvm.Cond.code ({ cls := "java/lang/AbstractStringBuilder", name := "inflateIfNeededFor", desc := "(Ljava/lang/String;)V" } : Jvm.MethodName) jdk_68_method_71_code (2 : Nat) (Option.none : Option Jvm.ClassFile.FieldType), Jvm.Cond.code ({ cls := "java/lang/String", name := "getBytes", desc := "([BIB)V" } : Jvm.MethodName) jdk_42_method_147_code (4 : Nat) (Option.none : Option Jvm.ClassFile.FieldType), Jvm.Cond.code ({ cls := "java/lang/AbstractStringBuilder", name := "newCapacity", desc := "(I)I" } : Jvm.MethodName) jdk_68_method_10_code (6 : Nat) (Option.some Jvm.ClassFile.FieldType.int), Jvm.Cond.code ({ cls := "jdk/internal/util/ArraysSupport", name := "newLength", desc := "(III)I" } : Jvm.MethodName) jdk_48_method_27_code (4 : Nat) (Option.some Jvm.ClassFile.FieldType.int), Jvm.Cond.code ({ cls := "java/lang/Math", name := "max", desc := "(II)I" } : Jvm.MethodName) jdk_29_method_65_code (2 : Nat) (Option.some Jvm.ClassFile.FieldType.int), Jvm.Cond.code ({ cls := "java/util/Arrays", name := "copyOf", desc := "([BI)[B" } : Jvm.MethodName) jdk_65_method_121_code (3 : Nat) (Option.some (Jvm.ClassFile.FieldType.array Jvm.ClassFile.FieldType.byte)), Jvm.Cond.code ({ cls := "java/lang/Math", name := "min", desc := "(II)I" } : Jvm.MethodName) jdk_29_method_69_code (2 : Nat) (Option.some Jvm.ClassFile.FieldType.int), Jvm.Cond.code ({ cls := "java/lang/StringBuilder", name := "toString", desc := "()Ljava/lang/String;" } : Jvm.MethodName) jdk_67_method_42_code (1 : Nat) (Option.some (Jvm.ClassFile.FieldType.object "java/lang/String")), Jvm.Cond.code ({ cls := "java/lang/String", name := "<init>", desc := "(Ljava/lang/StringBuilder;)V" } : Jvm.MethodName) jdk_42_method_53_code (2 : Nat) (Option.none : Option Jvm.ClassFile.FieldType), Jvm.Cond.code ({ cls := "java/lang/String", name := "<init>", desc := "(Ljava/lang/AbstractStringBuilder;Ljava/lang/Void;)V" } : Jvm.MethodName) jdk_42_method_150_code (5 : Nat) (Option.none : Option Jvm.ClassFile.FieldType), Jvm.Cond.code ({ cls := "java/lang/AbstractStringBuilder", name := "getValue", desc := "()[B" } : Jvm.MethodName) jdk_68_method_64_code (1 : Nat) (Option.some (Jvm.ClassFile.FieldType.array Jvm.ClassFile.FieldType.byte)), Jvm.Cond.code ({ cls := "java/lang/StringBuilder", name := "length", desc := "()I" } : Jvm.MethodName) jdk_67_method_93_code (1 : Nat) (Option.some Jvm.ClassFile.FieldType.int), Jvm.Cond.code ({ cls := "java/lang/AbstractStringBuilder", name := "length", desc := "()I" } : Jvm.MethodName) jdk_68_method_6_code (1 : Nat) (Option.some Jvm.ClassFile.FieldType.int), Jvm.Cond.code ({ cls := "java/lang/AbstractStringBuilder", name := "isLatin1", desc := "()Z" } : Jvm.MethodName) jdk_68_method_68_code (1 : Nat) (Option.some Jvm.ClassFile.FieldType.boolean), Jvm.Cond.code ({ cls := "java/util/Arrays", name := "copyOfRange", desc := "([BII)[B" } : Jvm.MethodName) jdk_65_method_132_code (3 : Nat) (Option.some (Jvm.ClassFile.FieldType.array Jvm.ClassFile.FieldType.byte)), Jvm.Cond.code ({ cls := "java/util/Arrays", name := "copyOfRangeByte", desc := "([BII)[B" } : Jvm.MethodName) jdk_65_method_133_code (5 : Nat) (Option.some (Jvm.ClassFile.FieldType.array Jvm.ClassFile.FieldType.byte)), Jvm.Cond.code ({ cls := "java/util/Arrays", name := "checkLength", desc := "(II)V" } : Jvm.MethodName) jdk_65_method_131_code (2 : Nat) (Option.none : Option Jvm.ClassFile.FieldType), Jvm.Cond.code ({ cls := "com/example/handover/handover/ApiError", name := "<init>", desc := "(ILjava/lang/String;Ljava/lang/String;Ljava/lang/String;)V" } : Jvm.MethodName) prog_1_method_2_code (5 : Nat) (Option.none : Option Jvm.ClassFile.FieldType), Jvm.Cond.code ({ cls := "java/lang/RuntimeException", name := "<init>", desc := "(Ljava/lang/String;)V" } : Jvm.MethodName) jdk_58_method_2_code (2 : Nat) (Option.none : Option Jvm.ClassFile.FieldType), Jvm.Cond.code ({ cls := "java/lang/Exception", name := "<init>", desc := "(Ljava/lang/String;)V" } : Jvm.MethodName) jdk_59_method_2_code (2 : Nat) (Option.none : Option Jvm.ClassFile.FieldType), Jvm.Cond.code ({ cls := "java/lang/Throwable", name := "<init>", desc := "(Ljava/lang/String;)V" } : Jvm.MethodName) jdk_78_method_2_code (2 : Nat) (Option.none : Option Jvm.ClassFile.FieldType), Jvm.Cond.code ({ cls := "java/lang/Throwable", name := "<init>", desc := "()V" } : Jvm.MethodName) jdk_78_method_1_code (1 : Nat) (Option.none : Option Jvm.ClassFile.FieldType), Jvm.Cond.code ({ cls := "com/example/handover/handover/ApiError", name := "status", desc := "()I" } : Jvm.MethodName) prog_1_method_16_code (1 : Nat) (Option.some Jvm.ClassFile.FieldType.int), Jvm.Cond.code ({ cls := "com/example/handover/handover/ApiError", name := "type", desc := "()Ljava/lang/String;" } : Jvm.MethodName) prog_1_method_17_code (1 : Nat) (Option.some (Jvm.ClassFile.FieldType.object "java/lang/String")), Jvm.Cond.code ({ cls := "java/lang/String", name := "equals", desc := "(Ljava/lang/Object;)Z" } : Jvm.MethodName) jdk_42_method_66_code (3 : Nat) (Option.some Jvm.ClassFile.FieldType.boolean), Jvm.Cond.code ({ cls := "com/example/handover/handover/ApiError", name := "operationId", desc := "()Ljava/lang/String;" } : Jvm.MethodName) prog_1_method_18_code (1 : Nat) (Option.some (Jvm.ClassFile.FieldType.object "java/lang/String")), Jvm.Cond.code ({ cls := "java/lang/Throwable", name := "getMessage", desc := "()Ljava/lang/String;" } : Jvm.MethodName) jdk_78_method_6_code (1 : Nat) (Option.some (Jvm.ClassFile.FieldType.object "java/lang/String")), Jvm.Cond.code ({ cls := "java/lang/StringLatin1", name := "equals", desc := "([B[B)Z" } : Jvm.MethodName) jdk_43_method_13_code (3 : Nat) (Option.some Jvm.ClassFile.FieldType.boolean), Jvm.Cond.code ({ cls := "java/lang/StringUTF16", name := "toBytes", desc := "([CII)[B" } : Jvm.MethodName) jdk_52_method_14_code (5 : Nat) (Option.some (Jvm.ClassFile.FieldType.array Jvm.ClassFile.FieldType.byte)), Jvm.Cond.code ({ cls := "java/lang/StringUTF16", name := "newBytesFor", desc := "(I)[B" } : Jvm.MethodName) jdk_52_method_2_code (1 : Nat) (Option.some (Jvm.ClassFile.FieldType.array Jvm.ClassFile.FieldType.byte)), Jvm.Cond.code ({ cls := "java/lang/StringUTF16", name := "newBytesLength", desc := "(I)I" } : Jvm.MethodName) jdk_52_method_3_code (1 : Nat) (Option.some Jvm.ClassFile.FieldType.int), Jvm.Cond.code ({ cls := "java/lang/StringUTF16", name := "putChar", desc := "([BII)V" } : Jvm.MethodName) jdk_52_method_4_code (3 : Nat) (Option.none : Option Jvm.ClassFile.FieldType), Jvm.Cond.code ({ cls := "java/lang/StringUTF16", name := "getChar", desc := "([BI)C" } : Jvm.MethodName) jdk_52_method_5_code (2 : Nat) (Option.some Jvm.ClassFile.FieldType.char), Jvm.Cond.code ({ cls := "java/lang/AbstractStringBuilder", name := "inflate", desc := "()V" } : Jvm.MethodName) jdk_68_method_11_code (2 : Nat) (Option.none : Option Jvm.ClassFile.FieldType), Jvm.Cond.code ({ cls := "java/lang/StringLatin1", name := "inflate", desc := "([BI[BII)V" } : Jvm.MethodName) jdk_43_method_50_code (5 : Nat) (Option.none : Option Jvm.ClassFile.FieldType), Jvm.Cond.code ({ cls := "java/lang/StringUTF16", name := "inflate", desc := "([BI[BII)V" } : Jvm.MethodName) jdk_52_method_86_code (6 : Nat) (Option.none : Option Jvm.ClassFile.FieldType), Jvm.Cond.code ({ cls := "java/lang/StringUTF16", name := "checkBoundsOffCount", desc := "(II[B)V" } : Jvm.MethodName) jdk_52_method_94_code (3 : Nat) (Option.none : Option Jvm.ClassFile.FieldType), Jvm.Cond.code ({ cls := "java/lang/StringUTF16", name := "length", desc := "([B)I" } : Jvm.MethodName) jdk_52_method_6_code (1 : Nat) (Option.some Jvm.ClassFile.FieldType.int), Jvm.Cond.code ({ cls := "java/lang/String", name := "checkBoundsOffCount", desc := "(III)I" } : Jvm.MethodName) jdk_42_method_157_code (3 : Nat) (Option.some Jvm.ClassFile.FieldType.int), Jvm.Cond.code ({ cls := "jdk/internal/util/Preconditions", name := "checkFromIndexSize", desc := "(IIILjava/util/function/BiFunction;)I" } : Jvm.MethodName) jdk_41_method_13_code (4 : Nat) (Option.some Jvm.ClassFile.FieldType.int)]
set_option maxRecDepth 65536 in
theorem codes_eq : words1.filter isCode = codes1 := rfl
theorem w_codes : ∀ c ∈ words1.filter isCode, c.before args0 about1 = true := by
  rw [codes_eq]
  intro c hc
  simp only [codes1, List.mem_cons, List.not_mem_nil, or_false] at hc
  rcases hc with rfl | rfl | rfl | rfl | rfl | rfl | rfl | rfl | rfl | rfl | rfl | rfl | rfl | rfl | rfl | rfl | rfl | rfl | rfl | rfl | rfl | rfl | rfl | rfl | rfl | rfl | rfl | rfl | rfl | rfl | rfl | rfl | rfl | rfl | rfl | rfl | rfl | rfl | rfl | rfl | rfl | rfl | rfl | rfl | rfl | rfl | rfl | rfl | rfl | rfl | rfl | rfl | rfl | rfl | rfl | rfl
  · exact w_c0
  · exact w_c1
  · exact w_c2
  · exact w_c3
  · exact w_c4
  · exact w_c5
  · exact w_c6
  · exact w_c7
  · exact w_c8
  · exact w_c9
  · exact w_c10
  · exact w_c11
  · exact w_c12
  · exact w_c13
  · exact w_c14
  · exact w_c15
  · exact w_c16
  · exact w_c17
  · exact w_c18
  · exact w_c19
  · exact w_c20
  · exact w_c21
  · exact w_c22
  · exact w_c23
  · exact w_c24
  · exact w_c25
  · exact w_c26
  · exact w_c27
  · exact w_c28
  · exact w_c29
  · exact w_c30
  · exact w_c31
  · exact w_c32
  · exact w_c33
  · exact w_c34
  · exact w_c35
  · exact w_c36
  · exact w_c37
  · exact w_c38
  · exact w_c39
  · exact w_c40
  · exact w_c41
  · exact w_c42
  · exact w_c43
  · exact w_c44
  · exact w_c45
  · exact w_c46
  · exact w_c47
  · exact w_c48
  · exact w_c49
  · exact w_c50
  · exact w_c51
  · exact w_c52
  · exact w_c53
  · exact w_c54
  · exact w_c55
set_option maxRecDepth 65536 in
theorem w_t1 : (words1.take 24).all (fun c => isCode c || c.before args0 about1) = true := by decide +kernel
set_option maxRecDepth 65536 in
theorem w_t2 : ((words1.drop 24).take 24).all (fun c => isCode c || c.before args0 about1) = true := by decide +kernel
set_option maxRecDepth 65536 in
theorem w_t3 : (((words1.drop 24).drop 24).take 24).all (fun c => isCode c || c.before args0 about1) = true := by decide +kernel
set_option maxRecDepth 65536 in
theorem w_t4 : ((((words1.drop 24).drop 24).drop 24).take 24).all (fun c => isCode c || c.before args0 about1) = true := by decide +kernel
set_option maxRecDepth 65536 in
theorem w_t5 : (((((words1.drop 24).drop 24).drop 24).drop 24).take 24).all (fun c => isCode c || c.before args0 about1) = true := by decide +kernel
set_option maxRecDepth 65536 in
theorem w_t6 : ((((((words1.drop 24).drop 24).drop 24).drop 24).drop 24).take 24).all (fun c => isCode c || c.before args0 about1) = true := by decide +kernel
set_option maxRecDepth 65536 in
theorem w_t7 : (((((((words1.drop 24).drop 24).drop 24).drop 24).drop 24).drop 24).take 24).all (fun c => isCode c || c.before args0 about1) = true := by decide +kernel
set_option maxRecDepth 65536 in
theorem w_t8 : ((((((((words1.drop 24).drop 24).drop 24).drop 24).drop 24).drop 24).drop 24).take 24).all (fun c => isCode c || c.before args0 about1) = true := by decide +kernel
set_option maxRecDepth 65536 in
theorem w_t9 : (((((((((words1.drop 24).drop 24).drop 24).drop 24).drop 24).drop 24).drop 24).drop 24).take 24).all (fun c => isCode c || c.before args0 about1) = true := by decide +kernel
set_option maxRecDepth 65536 in
theorem w_t10 : ((((((((((words1.drop 24).drop 24).drop 24).drop 24).drop 24).drop 24).drop 24).drop 24).drop 24).take 24).all (fun c => isCode c || c.before args0 about1) = true := by decide +kernel
set_option maxRecDepth 65536 in
theorem w_t11 : (((((((((((words1.drop 24).drop 24).drop 24).drop 24).drop 24).drop 24).drop 24).drop 24).drop 24).drop 24).take 24).all (fun c => isCode c || c.before args0 about1) = true := by decide +kernel
set_option maxRecDepth 65536 in
theorem w_t12 : ((((((((((((words1.drop 24).drop 24).drop 24).drop 24).drop 24).drop 24).drop 24).drop 24).drop 24).drop 24).drop 24).take 24).all (fun c => isCode c || c.before args0 about1) = true := by decide +kernel
set_option maxRecDepth 65536 in
theorem w_t13 : (((((((((((((words1.drop 24).drop 24).drop 24).drop 24).drop 24).drop 24).drop 24).drop 24).drop 24).drop 24).drop 24).drop 24).take 24).all (fun c => isCode c || c.before args0 about1) = true := by decide +kernel
set_option maxRecDepth 65536 in
theorem w_t14 : (((((((((((((words1.drop 24).drop 24).drop 24).drop 24).drop 24).drop 24).drop 24).drop 24).drop 24).drop 24).drop 24).drop 24).drop 24).all (fun c => isCode c || c.before args0 about1) = true := by decide +kernel
theorem w_tables : (allAtoms (Jvm.Cond.code x code maxLocals ret :: tables_1)).before args0 about1 = true := by
  rw [allAtoms_all]
  show words1.all (fun c => c.before args0 about1) = true
  refine all_split ?_ w_codes
  rw [← List.take_append_drop 24 words1, List.all_append, w_t1, ← List.take_append_drop 24 (words1.drop 24), List.all_append, w_t2, ← List.take_append_drop 24 ((words1.drop 24).drop 24), List.all_append, w_t3, ← List.take_append_drop 24 (((words1.drop 24).drop 24).drop 24), List.all_append, w_t4, ← List.take_append_drop 24 ((((words1.drop 24).drop 24).drop 24).drop 24), List.all_append, w_t5, ← List.take_append_drop 24 (((((words1.drop 24).drop 24).drop 24).drop 24).drop 24), List.all_append, w_t6, ← List.take_append_drop 24 ((((((words1.drop 24).drop 24).drop 24).drop 24).drop 24).drop 24), List.all_append, w_t7, ← List.take_append_drop 24 (((((((words1.drop 24).drop 24).drop 24).drop 24).drop 24).drop 24).drop 24), List.all_append, w_t8, ← List.take_append_drop 24 ((((((((words1.drop 24).drop 24).drop 24).drop 24).drop 24).drop 24).drop 24).drop 24), List.all_append, w_t9, ← List.take_append_drop 24 (((((((((words1.drop 24).drop 24).drop 24).drop 24).drop 24).drop 24).drop 24).drop 24).drop 24), List.all_append, w_t10, ← List.take_append_drop 24 ((((((((((words1.drop 24).drop 24).drop 24).drop 24).drop 24).drop 24).drop 24).drop 24).drop 24).drop 24), List.all_append, w_t11, ← List.take_append_drop 24 (((((((((((words1.drop 24).drop 24).drop 24).drop 24).drop 24).drop 24).drop 24).drop 24).drop 24).drop 24).drop 24), List.all_append, w_t12, ← List.take_append_drop 24 ((((((((((((words1.drop 24).drop 24).drop 24).drop 24).drop 24).drop 24).drop 24).drop 24).drop 24).drop 24).drop 24).drop 24), List.all_append, w_t13, w_t14]
  rfl
set_option maxRecDepth 65536 in
theorem w_rest : rest_1_c.before args0 about1 = true := by decide +kernel
set_option maxRecDepth 65536 in
theorem w_case : (Jvm.Cond.and given_1 narrow_1).before args0 about1 = true := by decide +kernel
set_option maxRecDepth 65536 in
theorem w_consts : constsHeld consts_1 about1 := Jvm.Lit.constsHeldB_iff.mp (by decide +kernel)
theorem w_applies : (headSpec (Jvm.Cond.code x code maxLocals ret :: tables_1) room_1).applies x e0.platform about1 = true :=
  (Spec.applies_iff w_frames).mpr ⟨w_running, w_runnable, w_alone, w_named, w_hears, w_ripe, w_room, w_tables⟩
theorem atStart : AtStart classFile x code maxLocals ret World_1 tables_1 room_1 Calls_1 rest_1 Pre_1 launch0 p0 e0 about1 theMethod args0 below0 :=
  ⟨lists_1, trivial, launch0.admits_env _ _ _, launch0.least_env, fairChoices_fair.cas, fairChoices_fair.clock, w_frames, w_args, w_heap, w_applies, ⟨(by decide +kernel : framesKnown about1 = true), ⟨(by decide +kernel : tablesKnown about1 = true), ⟨w_consts, trivial⟩⟩⟩, w_rest, w_case⟩
end start1
theorem witness_1 : WitnessClaimed_1 := ⟨start1.p0, start1.e0, start1.about1, start1.theMethod, start1.args0, start1.below0, start1.atStart⟩
end Jvm.Pilot.@@N@@
